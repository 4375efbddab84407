/- The walk of FnSetpathOwnedInPlace. -/
import Derived.Test.YtdhgaogjdjhokaaGreatDoorGuard
import Derived.Test.YtdhgaogjdjhokaaGreatDoorOwned
namespace Go.Proofs.YtdhgaogjdjhokaaGreatDoor
open Go.RowKit Go.Gq
set_option maxRecDepth 100000
theorem ownG_at {xs : List Int} {n : Int} {n0 j : Nat} {pos : Int} (hp : pos = j) : ∀ k, k < n0 → ownG xs n j k = if (k : Int) = pos then some n else if k < n0 then some (xs.getD k 0) else none := fun k hk => by
  unfold ownG
  by_cases e : k = j
  · rw [if_pos e, if_pos (by omega)]
  · rw [if_neg e, if_neg (by omega), if_pos hk]
set_option maxHeartbeats 4000000 in
theorem FnSetpathOwnedInPlace_walk (a0 : Option Addr) (n0 c0 : Nat) (xs : List Int) (idx n : Int) (w : World) (h0 : Rd w a0 n0 (vi xs)) (m0 : n0 ≤ 9223372036854775807) (hi0 : -9223372036854775808 ≤ idx) (hi1 : idx ≤ 9223372036854775807) :
    Calls Tryz.prog 8 #[.slice a0 n0 c0, .int .i64 idx, .int .i64 n] w (TrueKept w) := by
  have H0 := Lib.hid h0
  clear h0
  go_enter Tryz.func8, Tryz.ntmps8
  go_wp2_with fail
  refine (zzBytes_FnSetpathOwnedInPlace_any a0 n0 c0 idx n w m0).mono ?_
  rintro e w1 ⟨b, rfl, rfl⟩
  cases b with
  | false =>
    go_wp2
    go_ret
    exact ⟨rfl, Below.refl _ _⟩
  | true =>
  by_cases g0 : 65536 < n0
  · go_wp2
    go_ret
    exact ⟨rfl, Below.refl _ _⟩
  by_cases g1 : n0 = 0
  · subst g1
    go_wp2
    go_ret
    exact ⟨rfl, Below.refl _ _⟩
  have q0 : ((n0 : Int) == 0) = false := by simp; omega
  by_cases g2 : idx < -(n0 : Int)
  · go_wp2
    go_ret
    exact ⟨rfl, Below.refl _ _⟩
  by_cases g3 : (n0 : Int) ≤ idx
  · go_wp2
    go_ret
    exact ⟨rfl, Below.refl _ _⟩
  obtain ⟨j, hj⟩ : ∃ j : Nat, (if idx < 0 then idx + n0 else idx) = j := by
    split
    · exact ⟨(idx + n0).toNat, by omega⟩
    · exact ⟨idx.toNat, by omega⟩
  have hjL : j < n0 := by split at hj <;> omega
  have HJ := Lib.hid hj
  clear hj
  go_wp2_with fail
  refine (zzCloneInts_any a0 n0 c0 (fun i => xs.getD i 0) w (by omega) H0.out).mono ?_
  rintro e w1 ⟨b0, rfl, hr0, hk1⟩
  have R0 : Hid (Rd w1 b0 n0 (vi xs)) := hr0
  have K1 := Lib.hid hk1
  clear hr0 hk1
  go_wp2_with fail
  refine (ZZsetpathOwned_any b0 n0 n0 xs idx n j w1 R0.out (by omega) (by omega) (by omega) HJ.out hjL).mono ?_
  rintro e w2 ⟨r1, r2, rfl, ⟨ai, an, _, rfl, hI, hB⟩, ⟨ai', an', _, rfl, hI', hB'⟩, hk2⟩
  have R1 := Lib.hid (And.intro hI (And.intro hB (And.intro hI' hB')))
  have K2 := Lib.hid hk2
  clear hI hB hI' hB' hk2
  unfold vagg
  have go : ∀ pos : Int, pos = j → True := fun _ _ => trivial
  clear go
  by_cases g4 : idx < 0
  all_goals
    have hp : (if idx < 0 then idx + n0 else idx) = j := HJ.out
    first
      | rw [if_pos g4] at hp
      | rw [if_neg g4] at hp
    have HPos := Lib.hid hp
    clear hp
    go_wp2_with fail
    have kA := (kept_alloc w2 (.cells #[.int .i64 1, .slice (some ai) n0 n0, .slice (some an) n0 n0, .int .i64 0, .slice none 0 0, .slice none 0 0] 31)).trans (kept_alloc _ (.cells #[.int .i64 1, .slice (some ai') n0 n0, .slice (some an') n0 n0, .int .i64 0, .slice none 0 0, .slice none 0 0] 31))
    have BB : ((w2.alloc (.cells #[.int .i64 1, .slice (some ai) n0 n0, .slice (some an) n0 n0, .int .i64 0, .slice none 0 0, .slice none 0 0] 31)).alloc (.cells #[.int .i64 1, .slice (some ai') n0 n0, .slice (some an') n0 n0, .int .i64 0, .slice none 0 0, .slice none 0 0] 31)).rowIs (w2.heap.size + 1) 31 6 _ := row_of (l := [_, _, _, _, _, _]) (by have := heap_alloc_new (w2.alloc (.cells #[.int .i64 1, .slice (some ai) n0 n0, .slice (some an) n0 n0, .int .i64 0, .slice none 0 0, .slice none 0 0] 31)) (.cells #[.int .i64 1, .slice (some ai') n0 n0, .slice (some an') n0 n0, .int .i64 0, .slice none 0 0, .slice none 0 0] 31); simpa using this)
    have KA := Lib.hid kA
    have HBB := Lib.hid BB
    clear kA BB
    refine (zzArrayOK_true b0 n0 n0 xs n0 _ n n0 (ownG xs n j) ai an _ ((R0.out.kept K2.out).kept KA.out) (Nat.le_refl _) (by omega) (by omega) (R1.out.1.kept KA.out) (R1.out.2.1.kept KA.out) (ownG_at HPos.out)).mono ?_
    rintro e w5 ⟨rfl, hk5⟩
    have hBB := rowIs_kept HBB.out hk5
    have t0 := hBB.cell (i := 0) (by omega)
    have t1 := hBB.cell (i := 1) (by omega)
    have t2 := hBB.cell (i := 2) (by omega)
    have t3 := hBB.cell (i := 3) (by omega)
    have t4 := hBB.cell (i := 4) (by omega)
    have t5 := hBB.cell (i := 5) (by omega)
    simp only [List.getD_cons_succ, List.getD_cons_zero] at t0 t1 t2 t3 t4 t5
    have K5 := Lib.hid hk5
    clear hk5 hBB
    go_wp2_with fail
    refine (zzArrayOK_true b0 n0 n0 xs n0 _ n n0 (ownG xs n j) ai' an' _ (((R0.out.kept K2.out).kept KA.out).kept K5.out) (Nat.le_refl _) (by omega) (by omega) ((R1.out.2.2.1.kept KA.out).kept K5.out) ((R1.out.2.2.2.kept KA.out).kept K5.out) (ownG_at HPos.out)).mono ?_
    rintro e w6 ⟨rfl, hk6⟩
    have K6 := Lib.hid hk6
    clear hk6 t0 t1 t2 t3 t4 t5
    go_wp2
    go_ret
    exact ⟨rfl, (((K1.out.trans K2.out).trans KA.out).trans K5.out).trans K6.out⟩
end Go.Proofs.YtdhgaogjdjhokaaGreatDoor
