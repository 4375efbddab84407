/- (*big.Int).Neg at the twenty nines. -/
import Derived.Test.YticjhbklcpoonaaGreatDoorKyb
import Derived.Deep.AppendLies
namespace Go.Proofs.YticjhbklcpoonaaGreatDoor
open Go.RowKit Go.Gq
set_option maxRecDepth 100000
theorem sizeWord : (Tryz.prog.info? 204).map (·.size) = some 1 := by kernel_rfl
theorem make2n (w : World) : Calls Tryz.prog 127 #[.slice none 0 0, .int .i64 2] w fun e w' => e = .returned (.slice (some ⟨w.heap.size, 0, none⟩) 2 6) ∧ w'.rowIs w.heap.size 204 6 (fun _ => .int .u64 0) ∧ Kept w w' := by
  have hmk : (Instr.makeSlice 180 (.int .i64 2) (.int .i64 6)).run Tryz.prog w = .ok (.slice (some ⟨w.heap.size, 0, none⟩) 2 6) (w.alloc (.cells (madeCells #[Value.int .u64 0] 6) 204)) :=
    make_gen 180 204 Tryz.underlying180 tixWord rfl (by omega) 2 6 (by omega) (by omega) w
  go_enter Tryz.func127, Tryz.ntmps127
  go_wp2
  go_ret
  exact ⟨rfl, World.rowIs_made w _ 6 204, kept_alloc _ _⟩
theorem natSet_ok (w : World) (M : Nat) (h : Wds w M #[.int .u64 7766279631452241919, .int .u64 5, .int .u64 0, .int .u64 0, .int .u64 0, .int .u64 0]) :
    Calls Tryz.prog 116 #[.slice none 0 0, .slice (some ⟨M, 0, none⟩) 2 6] w fun e w' => ∃ N, e = .returned (.slice (some ⟨N, 0, none⟩) 2 6) ∧ w.heap.size ≤ N ∧ Kept w w' := by
  go_enter Tryz.func116, Tryz.ntmps116
  go_wp2_with fail
  refine (make2n w).mono ?_
  rintro e w1 ⟨rfl, hrow, hk⟩
  have h1 := h.keep (S := fun _ => False) (keep_of_below _ hk) (fun h => h)
  have hv : Rd w1 (some ⟨M, 0, none⟩) 2 (fun i => if i = 0 then .int .u64 7766279631452241919 else .int .u64 5) := .inr ⟨M, 0, rfl, fun i hi => by
    rw [h1.cell]
    have : i = 0 ∨ i = 1 := by omega
    rcases this with rfl | rfl <;> rfl⟩
  obtain ⟨w3, hcp, hrow3, ho3⟩ := run_copy_rd (P := Tryz.prog) w1 180 180 3 204 w.heap.size 0 2 6 (some ⟨M, 0, none⟩) 2 6 6 204 _ _ Tryz.underlying180 sizeWord hrow hv (Nat.le_refl _) (by omega) (fun i _ => by split <;> rfl)
  have K := Lib.hid (Below.trans hk (Keep.below (B := w.heap.size) (keep_of_only (S := fun k => k = w.heap.size) ho3 rfl) hk.size fun i e => by omega))
  clear hk ho3 hrow3 hv h1 h
  go_wp2
  go_ret
  exact ⟨_, rfl, Nat.le_refl _, K.out⟩
theorem neq_ptr_gen {P : Program} (w : World) {tp te : TypeId} {j : TypeInfo} (a b : Addr) (hp : P.underlying tp = some (.pointer te)) (hte : P.info? te = some j) (hsz : j.size ≠ 0) (hs : (sameAddr a b).run P w = .ok false w) :
    (binOp .neq tp (.pointer (some a)) (.pointer (some b))).run P w = .ok (.bool true) w := by
  have h : ∀ d : Nat, (Op.equalIn (d + 1) tp (.pointer (some a)) (.pointer (some b))).run P w = .ok false w := fun d => by
    simp [Op.equalIn, run_underlying hp, sizeOf, typeInfo, hte, hsz, hs]
  simp only [binOp]
  simp [Op.equal, Op.maxDepth, h 9999]
theorem neq_ptr (w : World) (Z X : Nat) (h : Z ≠ X) (n m : Bool) (u v : Value) (hz : BigAt w Z n u) (hx : BigAt w X m v) : (binOp .neq 167 (.pointer (some ⟨Z, 0, none⟩)) (.pointer (some ⟨X, 0, none⟩))).run Tryz.prog w = .ok (.bool true) w := by
  have h2 : (Tryz.prog.info? 182).map (fun i => i.size) = some 2 := by kernel_rfl
  obtain ⟨j, hj, hsz⟩ := Option.map_eq_some_iff.1 h2
  have hne : (⟨Z, 0, none⟩ : Addr) ≠ ⟨X, 0, none⟩ := fun e => h (by injection e)
  exact neq_ptr_gen w _ _ Tryz.underlying167 hj (by rw [hsz]; decide) (run_sameAddr_other (a := ⟨Z, 0, none⟩) (b := ⟨X, 0, none⟩) w hne hz hx)
theorem set_ok (w : World) (Z X M : Nat) (hZX : Z ≠ X) (hz : BigAt w Z false (.slice none 0 0)) (hx : BigAt w X false (.slice (some ⟨M, 0, none⟩) 2 6)) (h : Wds w M #[.int .u64 7766279631452241919, .int .u64 5, .int .u64 0, .int .u64 0, .int .u64 0, .int .u64 0]) :
    Calls Tryz.prog 110 #[.pointer (some ⟨Z, 0, none⟩), .pointer (some ⟨X, 0, none⟩)] w fun e w' => ∃ N, e = .returned (.pointer (some ⟨Z, 0, none⟩)) ∧ BigAt w' Z false (.slice (some ⟨N, 0, none⟩) 2 6) ∧ Keep (fun k => k = Z) w w' := by
  have qn := neq_ptr w Z X hZX _ _ _ _ hz hx
  have z1 := hz.c1
  have x1 := hx.c1
  have fz := hz.fr 1
  go_enter Tryz.func110, Tryz.ntmps110
  go_wp2_with fail
  go_region_law (first | (go_simp; go_at_call 116; refine (natSet_ok _ M (h.keep (S := fun _ => False) (keep_of_below _ (kept_drew w)) (fun h => h))).mono ?_; rintro e w1 ⟨N, rfl, hN, hk⟩; have hk1 := (kept_drew w).trans hk; have z2 := (hz.keep (keep_of_below (fun _ => False) hk1) (fun h => h)).c1; have f2 := (hz.keep (keep_of_below (fun _ => False) hk1) (fun h => h)).fr 1))
  all_goals
    have hz1 := hz.keep (keep_of_below (fun _ => False) hk1) (fun h => h)
    have hz2 := hz1.set1 (.slice (some ⟨N, 0, none⟩) 2 6)
    have hx2 := (hx.keep (keep_of_below (fun _ => False) hk1) (fun h => h)).keep (keep_set w1 ⟨Z, 1, none⟩ (.slice (some ⟨N, 0, none⟩) 2 6)) (Ne.symm hZX)
    have a0 := hx2.c0
    have a1 := hz2.c0
    have a2 := hz2.fr 0
    have kk := Lib.hid (And.intro (hz2.set0 false) (((keep_of_below (fun k => k = Z) hk1).trans (keep_set w1 ⟨Z, 1, none⟩ (.slice (some ⟨N, 0, none⟩) 2 6))).trans (keep_set _ ⟨Z, 0, none⟩ (.bool false))))
    clear hz1 hz2 hx2
    go_wp2
    go_ret
    exact ⟨N, rfl, kk.out.1, kk.out.2⟩
theorem neg_ok (w : World) (Z X M : Nat) (hZX : Z ≠ X) (hz : BigAt w Z false (.slice none 0 0)) (hx : BigAt w X false (.slice (some ⟨M, 0, none⟩) 2 6)) (h : Wds w M #[.int .u64 7766279631452241919, .int .u64 5, .int .u64 0, .int .u64 0, .int .u64 0, .int .u64 0]) :
    Calls Tryz.prog 99 #[.pointer (some ⟨Z, 0, none⟩), .pointer (some ⟨X, 0, none⟩)] w fun e w' => e = .returned (.pointer (some ⟨Z, 0, none⟩)) ∧ Keep (fun k => k = Z) w w' := by
  go_enter Tryz.func99, Tryz.ntmps99
  go_wp2_with fail
  refine (set_ok w Z X M hZX hz hx h).mono ?_
  rintro e w1 ⟨N, rfl, hz1, k1⟩
  have a0 := hz1.c0
  have a1 := hz1.c1
  have a2 := hz1.fr 0
  have kk := Lib.hid (k1.trans (keep_set w1 ⟨Z, 0, none⟩ (.bool true)))
  clear hz1 k1
  go_wp2
  go_ret
  exact ⟨rfl, kk.out⟩
theorem negate_big (w : World) (X M : Nat) (hx : BigAt w X false (.slice (some ⟨M, 0, none⟩) 2 6)) (h : Wds w M #[.int .u64 7766279631452241919, .int .u64 5, .int .u64 0, .int .u64 0, .int .u64 0, .int .u64 0]) :
    Calls Tryz.prog 85 #[.iface 167 (.pointer (some ⟨X, 0, none⟩))] w fun e w' => ∃ v, e = .returned v ∧ KeyN v ∧ Kept w w' := by
  have hXl : X < w.heap.size := cell_lt hx.c0
  go_enter Tryz.func85, Tryz.ntmps85
  go_wp2_with fail
  refine (neg_ok _ w.heap.size X M (by omega) (big_alloc w) (hx.keep (S := fun _ => False) (keep_of_below _ (kept_alloc w _)) (fun h => h)) (h.keep (S := fun _ => False) (keep_of_below _ (kept_alloc w _)) (fun h => h))).mono ?_
  rintro e w1 ⟨rfl, k1⟩
  have K := Lib.hid ((keep_of_below (fun k => k = w.heap.size) (kept_alloc w _)).trans k1 |>.below (Nat.le_refl _) fun i e => by omega)
  clear k1
  go_wp2
  go_ret
  exact ⟨_, rfl, .inr ⟨_, rfl⟩, K.out⟩
theorem negate_lit (w : World) (v : Value) (hv : NkIs w v) : Calls Tryz.prog 85 #[v] w fun e w' => ∃ v, e = .returned v ∧ KeyN v ∧ Kept w w' := by
  rcases hv with ⟨b, rfl⟩ | ⟨Z, N, rfl, h1, h2⟩
  · exact negate_fl w b
  · exact negate_big w Z N h2 h1
end Go.Proofs.YticjhbklcpoonaaGreatDoor
