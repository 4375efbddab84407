/- big.Int's words at the given numbers: the pure parts by the kernel; make, setWord. -/
import Derived.Test.YticjhbklcpoonaaGreatDoorRfl
import Derived.Test.YticjhbklcpoonaaGreatDoorRdr
import Derived.Test.YticjhbklcpoonaaGreatDoorTix
namespace Go.Proofs.YticjhbklcpoonaaGreatDoor
open Go.RowKit Go.Gq
set_option maxRecDepth 100000
theorem maxPow_run (w : World) : Calls Tryz.prog 138 #[.int .u64 10] w fun e w' => e = .returned (.tuple #[.int .u64 10000000000000000000, .int .i64 19]) ∧ w' = w :=
  calls_of_run 462 Tryz.f138 fun cs => by kernel_rfl
theorem pow_run (w : World) : Calls Tryz.prog 140 #[.int .u64 10, .int .i64 1] w fun e w' => e = .returned (.int .u64 10) ∧ w' = w :=
  calls_of_run 57 Tryz.f140 fun cs => by kernel_rfl
theorem www_run (w : World) : Calls Tryz.prog 194 #[.int .u64 9999999999999999999, .int .u64 10, .int .u64 9] w fun e w' => e = .returned (.tuple #[.int .u64 5, .int .u64 7766279631452241919]) ∧ w' = w :=
  calls_of_run 186 Tryz.f194 fun cs => by kernel_rfl
theorem inf_run (w : World) : Calls Tryz.prog 97 #[.int .i64 1] w fun e w' => e = .returned (.float .f64 9218868437227405312) ∧ w' = w :=
  calls_of_run 25 Tryz.f97 fun cs => by kernel_rfl
theorem tixWord : (Tryz.prog.info? 204).map (fun i => (i.zero, i.size, i.bytes)) = some (some (.int .u64 0), 1, 8) := by kernel_rfl
/-- A row of words of its own. -/
def Wds (w : World) (N : Nat) (xs : Array Value) : Prop := w.heap[N]? = some (.cells xs 204 (0, 0))
theorem made1 : madeCells #[Value.int .u64 0] 1 = #[Value.int .u64 0] := by kernel_rfl
theorem made6 : madeCells #[Value.int .u64 0] 6 = #[Value.int .u64 0, .int .u64 0, .int .u64 0, .int .u64 0, .int .u64 0, .int .u64 0] := by kernel_rfl
theorem wds_alloc (w : World) (xs : Array Value) : Wds (w.alloc (.cells xs 204)) w.heap.size xs := by
  show (w.heap.push _)[w.heap.size]? = _
  rw [Array.getElem?_push_size]
theorem Wds.cell {w : World} {N : Nat} {xs : Array Value} (h : Wds w N xs) (k : Nat) : w.cell? ⟨N, k, none⟩ = xs[k]? := by
  unfold Wds at h; simp [World.cell?, h]
theorem Wds.fr {w : World} {N : Nat} {xs : Array Value} (h : Wds w N xs) (k : Nat) : w.frozen? ⟨N, k, none⟩ = false := by
  unfold Wds at h; simp [World.frozen?, h]
theorem Wds.set {w : World} {N : Nat} {xs : Array Value} (h : Wds w N xs) (k : Nat) (v : Value) : Wds (w.setCell ⟨N, k, none⟩ v) N (xs.setIfInBounds k v) := by
  unfold Wds at *; simp [World.setCell, Array.getElem?_modify, h]
theorem Wds.keep {S : Nat → Prop} {w w' : World} {N : Nat} {xs : Array Value} (h : Wds w N xs) (k : Keep S w w') (hs : ¬ S N) : Wds w' N xs := by
  unfold Wds at *
  rw [k.block N (Array.getElem?_eq_some_iff.1 h).1 hs]; exact h
theorem make1 (w : World) : Calls Tryz.prog 127 #[.slice none 0 0, .int .i64 1] w fun e w' => ∃ N, e = .returned (.slice (some ⟨N, 0, none⟩) 1 1) ∧ w.heap.size ≤ N ∧ Wds w' N #[.int .u64 0] ∧ Kept w w' := by
  have hmk : (Instr.makeSlice 180 (.int .i64 1) (.int .i64 1)).run Tryz.prog w = .ok (.slice (some ⟨w.heap.size, 0, none⟩) 1 1) (w.alloc (.cells #[Value.int .u64 0] 204)) := by
    have h := make_gen 180 204 Tryz.underlying180 tixWord rfl (by omega) 1 1 (by omega) (by omega) w
    rw [made1] at h
    exact h
  go_enter Tryz.func127, Tryz.ntmps127
  go_wp2
  go_ret
  exact ⟨_, rfl, Nat.le_refl _, wds_alloc _ _, kept_alloc _ _⟩
theorem make2 (w : World) (a : Addr) : Calls Tryz.prog 127 #[.slice (some a) 1 1, .int .i64 2] w fun e w' => ∃ N, e = .returned (.slice (some ⟨N, 0, none⟩) 2 6) ∧ w.heap.size ≤ N ∧ Wds w' N #[.int .u64 0, .int .u64 0, .int .u64 0, .int .u64 0, .int .u64 0, .int .u64 0] ∧ Kept w w' := by
  have hmk : (Instr.makeSlice 180 (.int .i64 2) (.int .i64 6)).run Tryz.prog w = .ok (.slice (some ⟨w.heap.size, 0, none⟩) 2 6) (w.alloc (.cells #[Value.int .u64 0, .int .u64 0, .int .u64 0, .int .u64 0, .int .u64 0, .int .u64 0] 204)) := by
    have h := make_gen 180 204 Tryz.underlying180 tixWord rfl (by omega) 2 6 (by omega) (by omega) w
    rw [made6] at h
    exact h
  go_enter Tryz.func127, Tryz.ntmps127
  go_wp2
  go_ret
  exact ⟨_, rfl, Nat.le_refl _, wds_alloc _ _, kept_alloc _ _⟩
theorem setWord_ok (w : World) (x : Int) (hx : x ≠ 0) : Calls Tryz.prog 161 #[.slice none 0 0, .int .u64 x] w fun e w' => ∃ N, e = .returned (.slice (some ⟨N, 0, none⟩) 1 1) ∧ w.heap.size ≤ N ∧ Wds w' N #[.int .u64 x] ∧ Kept w w' := by
  have q0 : (x == 0) = false := by simpa using hx
  go_enter Tryz.func161, Tryz.ntmps161
  go_wp2_with fail
  refine (make1 w).mono ?_
  rintro e w1 ⟨N, rfl, hN, hd, hk⟩
  have c0 : w1.cell? ⟨N, 0, none⟩ = some (.int .u64 0) := hd.cell 0
  have f0 := hd.fr 0
  have hd2 := hd.set 0 (.int .u64 x)
  have hk2 := hk.setCell (p := ⟨N, 0, none⟩) hN (.int .u64 x)
  have H := Lib.hid (And.intro hd2 hk2)
  clear hd hd2 hk hk2
  go_wp2
  go_ret
  exact ⟨N, rfl, hN, H.out.1, H.out.2⟩
end Go.Proofs.YticjhbklcpoonaaGreatDoor
