/- mulAddWW at the one word 9999999999999999999, times ten, and nine. -/
import Derived.Test.YticjhbklcpoonaaGreatDoorWrd
namespace Go.Proofs.YticjhbklcpoonaaGreatDoor
open Go.RowKit Go.Gq
set_option maxRecDepth 100000
theorem vwwg_ok (w : World) (N M : Nat) (hM : Wds w M #[.int .u64 0, .int .u64 0, .int .u64 0, .int .u64 0, .int .u64 0, .int .u64 0]) (hN : Wds w N #[.int .u64 9999999999999999999]) :
    Calls Tryz.prog 184 #[.slice (some ⟨M, 0, none⟩) 1 6, .slice (some ⟨N, 0, none⟩) 1 1, .int .u64 10, .int .u64 9] w fun e w' => e = .returned (.int .u64 5) ∧ w' = w.setCell ⟨M, 0, none⟩ (.int .u64 7766279631452241919) := by
  have c0 : w.cell? ⟨M, 0, none⟩ = some (.int .u64 0) := hM.cell 0
  have d0 : w.cell? ⟨N, 0, none⟩ = some (.int .u64 9999999999999999999) := hN.cell 0
  have f0 := hM.fr 0
  clear hM hN
  go_enter Tryz.func184, Tryz.ntmps184
  go_wp2
  go_loopw [8, 19] (fun c i wr => (c = .int .u64 9 ∧ i = .int .i64 0 ∧ wr = w) ∨ (c = .int .u64 5 ∧ i = .int .i64 1 ∧ wr = w.setCell ⟨M, 0, none⟩ (.int .u64 7766279631452241919))) (fun _ i _ => 1 - (intOf i).toNat)
  case atStart => exact .inl ⟨rfl, rfl, rfl⟩
  case round =>
    rcases hrel with ⟨rfl, rfl, rfl⟩ | ⟨rfl, rfl, rfl⟩
    · go_wp2_with fail
      refine (www_run _).mono ?_
      rintro e w1 ⟨rfl, rfl⟩
      go_wp2
      go_roundw
      case rel => first | exact .inr ⟨rfl, rfl, rfl⟩ | exact .inr ⟨rfl, rfl, trivial⟩ | simp
      case measure => simp [intOf]
    · go_wp2
      go_ret
      first | exact ⟨rfl, rfl⟩ | exact ⟨rfl, trivial⟩
theorem vww_ok (w : World) (N M : Nat) (hM : Wds w M #[.int .u64 0, .int .u64 0, .int .u64 0, .int .u64 0, .int .u64 0, .int .u64 0]) (hN : Wds w N #[.int .u64 9999999999999999999]) :
    Calls Tryz.prog 162 #[.slice (some ⟨M, 0, none⟩) 1 6, .slice (some ⟨N, 0, none⟩) 1 1, .int .u64 10, .int .u64 9] w fun e w' => e = .returned (.int .u64 5) ∧ w' = w.setCell ⟨M, 0, none⟩ (.int .u64 7766279631452241919) := by
  go_enter Tryz.func162, Tryz.ntmps162
  go_wp2_with fail
  refine (vwwg_ok w N M hM hN).mono ?_
  rintro e w1 ⟨rfl, rfl⟩
  go_wp2
  go_ret
  exact ⟨rfl, rfl⟩
theorem norm_ok (w : World) (M : Nat) (c1 : w.cell? ⟨M, 1, none⟩ = some (.int .u64 5)) :
    Calls Tryz.prog 142 #[.slice (some ⟨M, 0, none⟩) 2 6] w fun e w' => e = .returned (.slice (some ⟨M, 0, none⟩) 2 6) ∧ w' = w := by
  go_enter Tryz.func142, Tryz.ntmps142
  go_wp2
  go_loopw [3] (fun i wr => i = .int .i64 2 ∧ wr = w) (fun _ _ => 0)
  case atStart => exact ⟨rfl, rfl⟩
  case round =>
    obtain ⟨rfl, rfl⟩ := hrel
    go_wp2
    go_ret
    exact ⟨rfl, rfl⟩
/-- At no word: the word itself. -/
theorem mulAddWW_nil (w : World) (y r : Int) (hr : r ≠ 0) :
    Calls Tryz.prog 139 #[.slice none 0 0, .slice none 0 0, .int .u64 y, .int .u64 r] w fun e w' => ∃ N, e = .returned (.slice (some ⟨N, 0, none⟩) 1 1) ∧ w.heap.size ≤ N ∧ Wds w' N #[.int .u64 r] ∧ Kept w w' := by
  go_enter Tryz.func139, Tryz.ntmps139
  go_wp2_with fail
  refine (setWord_ok w r hr).mono ?_
  rintro e w1 ⟨N, rfl, hN, hd, hk⟩
  have H := Lib.hid (And.intro hd hk)
  clear hd hk
  go_wp2
  go_ret
  exact ⟨N, rfl, hN, H.out.1, H.out.2⟩
theorem mulAddWW_one (w : World) (N : Nat) (hN : Wds w N #[.int .u64 9999999999999999999]) :
    Calls Tryz.prog 139 #[.slice (some ⟨N, 0, none⟩) 1 1, .slice (some ⟨N, 0, none⟩) 1 1, .int .u64 10, .int .u64 9] w fun e w' => ∃ M, e = .returned (.slice (some ⟨M, 0, none⟩) 2 6) ∧ w.heap.size ≤ M ∧ Wds w' M #[.int .u64 7766279631452241919, .int .u64 5, .int .u64 0, .int .u64 0, .int .u64 0, .int .u64 0] ∧ Kept w w' := by
  have HN := Lib.hid hN
  clear hN
  go_enter Tryz.func139, Tryz.ntmps139
  go_wp2_with fail
  refine (make2 w _).mono ?_
  rintro e w1 ⟨M, rfl, hM, hd, hk⟩
  have hN1 : Wds w1 N #[.int .u64 9999999999999999999] := HN.out.keep (S := fun _ => False) (keep_of_below _ hk) (fun h => h)
  have e0 := (hd.set 0 (.int .u64 7766279631452241919))
  have c1 : (w1.setCell ⟨M, 0, none⟩ (.int .u64 7766279631452241919)).cell? ⟨M, 1, none⟩ = some (.int .u64 0) := e0.cell 1
  have f1 := e0.fr 1
  have e1 := e0.set 1 (.int .u64 5)
  have k1 := (hk.setCell (p := ⟨M, 0, none⟩) hM (.int .u64 7766279631452241919)).setCell (p := ⟨M, 1, none⟩) hM (.int .u64 5)
  have g1 : ((w1.setCell ⟨M, 0, none⟩ (.int .u64 7766279631452241919)).setCell ⟨M, 1, none⟩ (.int .u64 5)).cell? ⟨M, 1, none⟩ = some (.int .u64 5) := e1.cell 1
  have H := Lib.hid (And.intro hd (And.intro hN1 (And.intro e1 k1)))
  clear hd hN1 e0 e1 k1 hk
  go_wp2_with fail
  refine (vww_ok w1 N M H.out.1 H.out.2.1).mono ?_
  rintro e w2 ⟨rfl, rfl⟩
  go_wp2_with fail
  refine (norm_ok _ M g1).mono ?_
  rintro e w3 ⟨rfl, rfl⟩
  go_wp2
  go_ret
  exact ⟨M, rfl, hM, H.out.2.2.1, H.out.2.2.2⟩
end Go.Proofs.YticjhbklcpoonaaGreatDoor
