/- The clone and the size of a list of strings. -/
import Derived.Test.YticjhbklcpoonaaGreatDoorSufh
namespace Go.Proofs.YticjhbklcpoonaaGreatDoor
open Go.RowKit Go.Gq
set_option maxRecDepth 100000
section
attribute [local go_sem] Lib.run_eql_slice_nil
set_option maxHeartbeats 1000000 in
theorem zzCloneStrs_rd (a : Option Addr) (n c : Nat) (f : Nat → ByteArray) (w : World) (hn : n ≤ 1048576) (h : Rd w a n (fun i => Value.string (f i))) :
    Calls Tryz.prog 32 #[.slice a n c] w fun e w' => ∃ a' c', e = .returned (.slice a' n c') ∧ Rd w' a' n (fun i => Value.string (f i)) ∧ Kept w w' := by
  cases a with
  | none =>
    obtain rfl := rd_none h
    go_enter Tryz.func32, Tryz.ntmps32
    go_wp2
    go_ret
    exact ⟨none, 0, rfl, .inl rfl, Below.refl _ _⟩
  | some x =>
    have hmk := make_gen 29 9 Tryz.underlying29 tixStr rfl (by omega) n n (Nat.le_refl _) (by omega)
    go_enter Tryz.func32, Tryz.ntmps32
    go_wp2
    obtain ⟨W, HW⟩ : ∃ W : World, W = w.alloc (.cells (madeCells #[Value.string ⟨#[]⟩] n) 9) := ⟨_, rfl⟩
    have hrow : W.rowIs w.heap.size 9 n (fun _ => Value.string ⟨#[]⟩) := by rw [HW]; exact World.rowIs_made w _ n 9
    have hk : Kept w W := by rw [HW]; exact kept_alloc _ _
    rw [← HW]
    clear HW hmk
    go_loopw [4] (fun i wr => ∃ k : Nat, k ≤ n ∧ i = .int .i64 k ∧ wr.rowIs w.heap.size 9 n (fun j => if j < k then Value.string (f j) else Value.string ⟨#[]⟩) ∧ Kept w wr) (fun i _ => n - (intOf i).toNat)
    case atStart => exact ⟨0, Nat.zero_le _, rfl, by simpa using hrow, hk⟩
    case round =>
      obtain ⟨k, hk, rfl, hrow, hkp⟩ := hrel
      by_cases hlt : k < n
      · obtain ⟨b, off, hx, hc⟩ := (h.kept hkp).at hlt
        injection hx with hx
        subst hx
        have hd := hrow.cell hlt
        have hz := hrow.frozen k
        have hset := (hrow.set k (Value.string (f k))).congr (g := fun j => if j < k + 1 then Value.string (f j) else Value.string ⟨#[]⟩) (fun j hj => by
          by_cases e : j = k
          · subst e; simp
          · simp only [if_neg e]; by_cases e2 : j < k
            · rw [if_pos e2, if_pos (by omega)]
            · rw [if_neg e2, if_neg (by omega)])
        have hkp2 := hkp.setCell (p := ⟨w.heap.size, k, none⟩) (Nat.le_refl _) (Value.string (f k))
        have Hset := Lib.hid hset
        have Hkp := Lib.hid hkp2
        simp only [Nat.lt_irrefl, if_false] at hd
        clear hset hkp2 hrow hkp h
        go_wp2
        go_roundw
        case rel => exact ⟨k + 1, by omega, by go_num, Hset.out, Hkp.out⟩
        case measure => simp [intOf]; omega
      · have : k = n := by omega
        subst this
        go_wp2
        go_ret
        refine ⟨_, _, rfl, rd_row (hrow.congr fun i hi => by simp [hi]), hkp⟩
set_option maxHeartbeats 1000000 in
theorem zzStrsBytes_any (a0 : Option Addr) (n0 c0 : Nat) (s : Nat → ByteArray) (w : World) (h0 : Rd w a0 n0 (fun i => .string (s i))) (hn : n0 ≤ 9223372036854775807) :
    Calls Tryz.prog 31 #[.slice a0 n0 c0] w (SomeInt w) := by
  have H0 := Lib.hid h0
  clear h0
  go_enter Tryz.func31, Tryz.ntmps31
  go_wp2
  go_loop [3, 4] (fun t i => ∃ (k : Nat) (z : Int), k ≤ n0 ∧ i = .int .i64 k ∧ t = .int .i64 z) (fun _ i => n0 - (intOf i).toNat)
  case atStart => exact ⟨0, _, Nat.zero_le _, rfl, rfl⟩
  case round =>
    obtain ⟨k, z, hk, rfl, rfl⟩ := hrel
    by_cases hlt : k < n0
    · obtain ⟨b, off, e1, hc⟩ := H0.out.at hlt
      subst e1
      obtain ⟨x, hx⟩ : ∃ x, x = s k := ⟨_, rfl⟩
      rw [← hx] at hc
      clear hx
      by_cases q1 : (1048576 : Int) < wrap64 (z + x.size)
      · go_wp2
        go_ret
        exact ⟨_, rfl, rfl⟩
      · go_wp2
        go_round
        case rel => first | exact ⟨k + 1, _, by omega, by go_num, rfl⟩ | ((repeat apply Exists.intro); refine ⟨?_, rfl⟩; exact ⟨k + 1, _, by omega, by go_num, rfl⟩)
        case measure => simp [intOf]; omega
    · go_wp2
      go_ret
      exact ⟨_, rfl, rfl⟩
end
end Go.Proofs.YticjhbklcpoonaaGreatDoor
