/- The bounds of a slice that the laws reckon. -/
import Derived.Test.YtdlmdmpkjhnbmaaGreatDoorSlc
namespace Go.Proofs.YtdlmdmpkjhnbmaaGreatDoor
open Go.RowKit Go.Gq
attribute [local go_sem] Lib.run_eql_slice_nil
set_option maxRecDepth 100000
/-- A bound that the caller may leave out. -/
def bnd (b : Bool) (i : Int) : Option Int := if b then none else some i
theorem bnd_ok {b : Bool} {i : Int} (h0 : -9223372036854775808 ≤ i) (h1 : i ≤ 9223372036854775807) : okB (bnd b i) := by
  intro j hj
  cases b with
  | true => cases hj
  | false => injection hj with hj; subst hj; exact ⟨h0, h1⟩
theorem ret_two {a b c d : Int} (h1 : a = c) (h2 : b = d) : Ending.returned (.tuple #[.int .i64 a, .int .i64 b]) = .returned (.tuple #[.int .i64 c, .int .i64 d]) := by rw [h1, h2]
set_option maxHeartbeats 4000000 in
theorem zzBounds_any (L : Nat) (st en : Int) (b1 b2 : Bool) (w : World) (hL : L ≤ 65536) (s0 : -9223372036854775808 ≤ st) (s1 : st ≤ 9223372036854775807) (e0 : -9223372036854775808 ≤ en) (e1 : en ≤ 9223372036854775807) :
    Calls Tryz.prog 16 #[.int .i64 L, .int .i64 st, .int .i64 en, .bool b1, .bool b2] w fun e w' => e = .returned (.tuple #[.int .i64 (sOf L (bnd b1 st)), .int .i64 (eOf L (sOf L (bnd b1 st)) (bnd b2 en))]) ∧ w = w' := by
  obtain ⟨s, hs⟩ : ∃ s : Nat, sOf L (bnd b1 st) = s := ⟨(sOf L (bnd b1 st)).toNat, by have := (sOf_bd L (bnd b1 st)).1; omega⟩
  have hsL : s ≤ L := by have := (sOf_bd L (bnd b1 st)).2; omega
  have HS := Lib.hid hs
  rw [hs]
  clear hs
  have go : ∀ (x : Int), True := fun _ => trivial
  clear go
  cases b1 with
  | true =>
    have hz : s = 0 := by have := HS.out; simp [bnd, sOf] at this; omega
    subst hz
    cases b2 with
    | true =>
      go_enter Tryz.func16, Tryz.ntmps16
      go_wp2
      all_goals
        go_ret2
        exact ⟨ret_two (by simp) (by simp [bnd, eOf]), rfl⟩
    | false =>
      go_enter Tryz.func16, Tryz.ntmps16
      go_wp2
      all_goals
        go_ret2
        exact ⟨ret_two (by simp) (by simp only [bnd, eOf, clampZ, Bool.false_eq_true, if_false]; (repeat' split) <;> omega), rfl⟩
  | false =>
    have hz : clampZ st 0 L = s := HS.out
    have HZ := Lib.hid hz
    clear hz
    cases b2 with
    | true =>
      go_enter Tryz.func16, Tryz.ntmps16
      go_wp2
      all_goals
        go_ret2
        exact ⟨ret_two (by rw [← HZ.out]; simp only [clampZ]; (repeat' split) <;> omega) (by simp [bnd, eOf]), rfl⟩
    | false =>
      go_enter Tryz.func16, Tryz.ntmps16
      go_wp2
      all_goals
        go_ret2
        exact ⟨ret_two (by rw [← HZ.out]; simp only [clampZ]; (repeat' split) <;> omega) (by rw [← HZ.out]; simp only [bnd, eOf, clampZ, Bool.false_eq_true, if_false]; (repeat' split) <;> omega), rfl⟩
end Go.Proofs.YtdlmdmpkjhnbmaaGreatDoor
