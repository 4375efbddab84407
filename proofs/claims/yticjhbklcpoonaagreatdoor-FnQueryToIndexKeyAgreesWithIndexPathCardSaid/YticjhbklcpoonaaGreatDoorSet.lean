/- (*big.Int).SetString at 1e1000 and at twenty nines. -/
import Derived.Test.YticjhbklcpoonaaGreatDoorScm
namespace Go.Proofs.YticjhbklcpoonaaGreatDoor
open Go.RowKit Go.Gq
set_option maxRecDepth 100000
/-- A big.Int. -/
def BigAt (w : World) (Z : Nat) (neg : Bool) (v : Value) : Prop := w.heap[Z]? = some (.cells #[.bool neg, v] 182 (0, 0))
theorem BigAt.c0 {w : World} {Z : Nat} {n : Bool} {v : Value} (h : BigAt w Z n v) : w.cell? ⟨Z, 0, none⟩ = some (.bool n) := by
  unfold BigAt at h; simp [World.cell?, h]
theorem BigAt.c1 {w : World} {Z : Nat} {n : Bool} {v : Value} (h : BigAt w Z n v) : w.cell? ⟨Z, 1, none⟩ = some v := by
  unfold BigAt at h; simp [World.cell?, h]
theorem BigAt.fr {w : World} {Z : Nat} {n : Bool} {v : Value} (h : BigAt w Z n v) (k : Nat) : w.frozen? ⟨Z, k, none⟩ = false := by
  unfold BigAt at h; simp [World.frozen?, h]
theorem BigAt.set0 {w : World} {Z : Nat} {n : Bool} {v : Value} (h : BigAt w Z n v) (m : Bool) : BigAt (w.setCell ⟨Z, 0, none⟩ (.bool m)) Z m v := by
  unfold BigAt at *; simp [World.setCell, Array.getElem?_modify, h]
theorem BigAt.set1 {w : World} {Z : Nat} {n : Bool} {v : Value} (h : BigAt w Z n v) (u : Value) : BigAt (w.setCell ⟨Z, 1, none⟩ u) Z n u := by
  unfold BigAt at *; simp [World.setCell, Array.getElem?_modify, h]
theorem BigAt.keep {S : Nat → Prop} {w w' : World} {Z : Nat} {n : Bool} {v : Value} (h : BigAt w Z n v) (k : Keep S w w') (hs : ¬ S Z) : BigAt w' Z n v := by
  unfold BigAt at *
  rw [k.block Z (Array.getElem?_eq_some_iff.1 h).1 hs]; exact h
/-- The sign: none, at a digit. -/
theorem scanSign_ok (w : World) (R : Nat) (s : ByteArray) (b : Int) (hs : s.size ≤ 4611686018427387904) (hi : 0 < s.size) (hb : ((s[0]'hi).toNat : Int) = b) (h45 : (b == 45) = false) (h43 : (b == 43) = false) (h : RdAt w R s 0) :
    Calls Tryz.prog 125 #[rdI R] w fun e w' => e = .returned (.tuple #[.bool false, .nilIface]) ∧ RdAt w' R s 0 ∧ Keep (fun k => k = R) w w' := by
  go_enter Tryz.func125, Tryz.ntmps125
  go_wp2_with fail
  refine (readByte_at w R s 0 b hs hi hb h).mono ?_
  rintro e w1 ⟨rfl, h1, k1⟩
  have H := Lib.hid (And.intro h1 k1)
  clear h k1
  go_wp2_with fail
  refine (unreadByte_ok w1 R s 0 hs hi h1).mono ?_
  rintro e w2 ⟨rfl, h2, k2⟩
  have H2 := Lib.hid (And.intro h2 k2)
  clear h1 h2 k2
  go_wp2
  exact bodyPost_ret (v := .tuple #[.bool false, .nilIface]) (by simp [results, Tryz.results125, go_sem]) rfl ⟨rfl, H2.out.1, H.out.2.trans H2.out.2⟩
/-- What nat.scan answers, for its callers. -/
def ScanIs (s : ByteArray) (l c m : Nat) (cells : Array Value) : Prop :=
  ∀ (w : World) (R : Nat) (p : Addr), RdAt w R s 0 → w.cell? ⟨1, 0, none⟩ = some (.iface 252 (.pointer (some p))) → R ≠ 1 →
    Calls Tryz.prog 126 #[.slice none 0 0, rdI R, .int .i64 10, .bool false] w fun e w' => ∃ N, e = .returned (.tuple #[.slice (some ⟨N, 0, none⟩) l c, .int .i64 10, .int .i64 m, .nilIface]) ∧ w.heap.size ≤ N ∧ Wds w' N cells ∧ RdAt w' R s m ∧ Keep (fun k => k = R) w w'
theorem is_1e1000 : ScanIs t1e1000 1 1 1 #[.int .u64 1] := fun w R p h he hR => scan_1e1000 w R h _ ⟨p, rfl⟩ he hR
theorem is_99 : ScanIs t99 2 6 20 #[.int .u64 7766279631452241919, .int .u64 5, .int .u64 0, .int .u64 0, .int .u64 0, .int .u64 0] := fun w R p h he hR => scan_99 w R h _ p rfl he hR
theorem scan_ok (s : ByteArray) (l c m : Nat) (cells : Array Value) (b : Int) (hsc : ScanIs s l c m cells) (hl : 0 < l) (hs : s.size ≤ 4611686018427387904) (hi : 0 < s.size) (hb : ((s[0]'hi).toNat : Int) = b) (h45 : (b == 45) = false) (h43 : (b == 43) = false)
    (w : World) (Z R : Nat) (p : Addr) (hz : BigAt w Z false (.slice none 0 0)) (h : RdAt w R s 0) (he : w.cell? ⟨1, 0, none⟩ = some (.iface 252 (.pointer (some p)))) (hR : R ≠ 1) (hZ : Z ≠ R) (_hZ1 : Z ≠ 1) :
    Calls Tryz.prog 115 #[.pointer (some ⟨Z, 0, none⟩), rdI R, .int .i64 10] w fun e w' => ∃ N, e = .returned (.tuple #[.pointer (some ⟨Z, 0, none⟩), .int .i64 10, .nilIface]) ∧ w.heap.size ≤ N ∧ Wds w' N cells ∧ BigAt w' Z false (.slice (some ⟨N, 0, none⟩) l c) ∧ RdAt w' R s m ∧ Keep (fun k => k = R ∨ k = Z) w w' := by
  have ql : (0 : Int) < (l : Int) := by omega
  go_enter Tryz.func115, Tryz.ntmps115
  go_wp2_with fail
  refine (scanSign_ok w R s b hs hi hb h45 h43 h).mono ?_
  rintro e w1 ⟨rfl, h1, k1⟩
  have hz1 := hz.keep k1 hZ
  have z0 := hz1.c1
  have he1 := keep_cell k1 he (Ne.symm hR)
  go_wp2_with fail
  refine (hsc w1 R p h1 he1 hR).mono ?_
  rintro e w2 ⟨N, rfl, hN, hd, h2, k2⟩
  have hz2 := hz1.keep k2 hZ
  have z1 := hz2.c1
  have f1 := hz2.fr 1
  have hz3 := hz2.set1 (.slice (some ⟨N, 0, none⟩) l c)
  have z2 := hz3.c0
  have z3 := hz3.c1
  have f2 := hz3.fr 0
  have hz4 := hz3.set0 false
  have hZl : Z < w.heap.size := cell_lt hz.c0
  have hRl : R < w.heap.size := cell_lt h.c0
  have hZN : Z ≠ N := by have := k1.size; omega
  have kf : Keep (fun k => k = R ∨ k = Z) w2 ((w2.setCell ⟨Z, 1, none⟩ (.slice (some ⟨N, 0, none⟩) l c)).setCell ⟨Z, 0, none⟩ (.bool false)) := (((keep_set w2 ⟨Z, 1, none⟩ _).trans (keep_set _ ⟨Z, 0, none⟩ _))).mono fun i _ e => .inr e
  have kz : Keep (fun k => k = Z) w2 ((w2.setCell ⟨Z, 1, none⟩ (.slice (some ⟨N, 0, none⟩) l c)).setCell ⟨Z, 0, none⟩ (.bool false)) := (keep_set w2 ⟨Z, 1, none⟩ _).trans (keep_set _ ⟨Z, 0, none⟩ _)
  have kk := ((k1.trans k2).mono (S' := fun k => k = R ∨ k = Z) fun i _ e => .inl e).trans kf
  have H := Lib.hid (And.intro (hd.keep kz (Ne.symm hZN)) (And.intro hz4 (And.intro (h2.keep kz (Ne.symm hZ)) (And.intro kk (Nat.le_trans k1.size hN)))))
  clear hd hz4 h2 kk kf kz k1 k2 hz hz1 hz2 hz3 h h1
  go_wp2
  exact bodyPost_ret (v := .tuple #[.pointer (some ⟨Z, 0, none⟩), .int .i64 10, .nilIface]) (by simp [results, Tryz.results115, go_sem]) rfl ⟨N, rfl, H.out.2.2.2.2, H.out.1, H.out.2.1, H.out.2.2.1, H.out.2.2.2.1⟩
theorem ne_nil_eof (w : World) (p : Addr) : (binOp .neq 128 .nilIface (.iface 252 (.pointer (some p)))).run Tryz.prog w = .ok (.bool true) w := by kernel_rfl
theorem ne_eof_eof (w : World) (p : Addr) : (binOp .neq 128 (.iface 252 (.pointer (some p))) (.iface 252 (.pointer (some p)))).run Tryz.prog w = .ok (.bool false) w := by
  have h1 : (Tryz.prog.info? 252).map (fun i => i.comparable) = some true := by kernel_rfl
  have h2 : (Tryz.prog.info? 254).map (fun i => i.comparable) = some true := by kernel_rfl
  obtain ⟨i, hi, hc⟩ := Option.map_eq_some_iff.1 h1
  obtain ⟨j, hj, _⟩ := Option.map_eq_some_iff.1 h2
  simp only [binOp]
  simp [Op.equal, Op.maxDepth, run_equalIn_iface_ptr_same w 9998 p Tryz.underlying128 Tryz.underlying252 hi hc hj]
theorem from_e (w : World) (Z R : Nat) (p : Addr) (hz : BigAt w Z false (.slice none 0 0)) (h : RdAt w R t1e1000 0) (he : w.cell? ⟨1, 0, none⟩ = some (.iface 252 (.pointer (some p)))) (hR : R ≠ 1) (hZ : Z ≠ R) (hZ1 : Z ≠ 1) :
    Calls Tryz.prog 106 #[.pointer (some ⟨Z, 0, none⟩), rdI R, .int .i64 10] w fun e w' => e = .returned (.tuple #[.pointer none, .bool false]) ∧ Keep (fun k => k = R ∨ k = Z) w w' := by
  go_enter Tryz.func106, Tryz.ntmps106
  go_wp2_with fail
  refine (scan_ok t1e1000 1 1 1 _ 49 is_1e1000 (by decide) (by decide) (by decide) (by decide) (by decide) (by decide) w Z R p hz h he hR hZ hZ1).mono ?_
  rintro e w1 ⟨N, rfl, hN, hd, hz1, h1, k1⟩
  have he1 := keep_cell k1 he (fun e => e.elim (fun e => hR e.symm) (fun e => hZ1 e.symm))
  go_wp2_with fail
  refine (readByte_at w1 R t1e1000 1 101 (by decide) (by decide) (by decide) h1).mono ?_
  rintro e w2 ⟨rfl, h2, k2⟩
  have he2 := keep_cell k2 he1 (Ne.symm hR)
  have qe := ne_nil_eof w2 p
  have kk := Lib.hid (k1.trans (k2.mono (S' := fun k => k = R ∨ k = Z) fun i _ e => .inl e))
  go_wp2
  exact bodyPost_ret (v := .tuple #[.pointer none, .bool false]) (by simp [results, Tryz.results106, go_sem]) rfl ⟨rfl, kk.out⟩
theorem from_99 (w : World) (Z R : Nat) (p : Addr) (hz : BigAt w Z false (.slice none 0 0)) (h : RdAt w R t99 0) (he : w.cell? ⟨1, 0, none⟩ = some (.iface 252 (.pointer (some p)))) (hR : R ≠ 1) (hZ : Z ≠ R) (hZ1 : Z ≠ 1) :
    Calls Tryz.prog 106 #[.pointer (some ⟨Z, 0, none⟩), rdI R, .int .i64 10] w fun e w' => ∃ N, e = .returned (.tuple #[.pointer (some ⟨Z, 0, none⟩), .bool true]) ∧ Wds w' N #[.int .u64 7766279631452241919, .int .u64 5, .int .u64 0, .int .u64 0, .int .u64 0, .int .u64 0] ∧ BigAt w' Z false (.slice (some ⟨N, 0, none⟩) 2 6) ∧ Keep (fun k => k = R ∨ k = Z) w w' := by
  go_enter Tryz.func106, Tryz.ntmps106
  go_wp2_with fail
  refine (scan_ok t99 2 6 20 _ 57 is_99 (by decide) (by decide) (by decide) (by decide) (by decide) (by decide) w Z R p hz h he hR hZ hZ1).mono ?_
  rintro e w1 ⟨N, rfl, hN, hd, hz1, h1, k1⟩
  have hNR : N ≠ R := by have := cell_lt h.c0; dsimp only at this; omega
  have he1 := keep_cell k1 he (fun e => e.elim (fun e => hR e.symm) (fun e => hZ1 e.symm))
  go_wp2_with fail
  refine (readByte_end w1 R t99 _ (by decide) h1 he1 hR).mono ?_
  rintro e w2 ⟨rfl, h2, k2⟩
  have he2 := keep_cell k2 he1 (Ne.symm hR)
  have qe := ne_eof_eof w2 p
  have kk := Lib.hid (And.intro (hd.keep k2 hNR) (And.intro (hz1.keep k2 hZ) (k1.trans (k2.mono (S' := fun k => k = R ∨ k = Z) fun i _ e => .inl e))))
  go_wp2
  exact bodyPost_ret (v := .tuple #[.pointer (some ⟨Z, 0, none⟩), .bool true]) (by simp [results, Tryz.results106, go_sem]) rfl ⟨N, rfl, kk.out.1, kk.out.2.1, kk.out.2.2⟩
/-- strings.NewReader: a reader that stands at the start. -/
theorem newReader_ok (w : World) (s : ByteArray) : Calls Tryz.prog 107 #[.string s] w fun e w' => ∃ R, e = .returned (.pointer (some ⟨R, 0, none⟩)) ∧ w.heap.size ≤ R ∧ RdAt w' R s 0 ∧ Kept w w' := by
  go_enter Tryz.func107, Tryz.ntmps107
  go_wp2
  go_ret
  refine ⟨w.heap.size, rfl, Nat.le_refl _, ?_, kept_alloc _ _⟩
  show (w.heap.push _)[w.heap.size]? = _
  rw [Array.getElem?_push_size]
  rfl
theorem setString_e (w : World) (Z : Nat) (p : Addr) (hz : BigAt w Z false (.slice none 0 0)) (he : w.cell? ⟨1, 0, none⟩ = some (.iface 252 (.pointer (some p)))) (hZ1 : Z ≠ 1) :
    Calls Tryz.prog 96 #[.pointer (some ⟨Z, 0, none⟩), .string t1e1000, .int .i64 10] w fun e w' => e = .returned (.tuple #[.pointer none, .bool false]) ∧ Keep (fun k => k = Z) w w' := by
  have hZl : Z < w.heap.size := cell_lt hz.c0
  have hel : 1 < w.heap.size := cell_lt he
  go_enter Tryz.func96, Tryz.ntmps96
  go_wp2_with fail
  refine (newReader_ok w t1e1000).mono ?_
  rintro e w1 ⟨R, rfl, hR, hr, k1⟩
  have hz1 := hz.keep (S := fun _ => False) (keep_of_below _ k1) (fun h => h)
  have he1 := kept_cell k1 he
  go_wp2_with fail
  refine (from_e w1 Z R p hz1 hr he1 (by omega) (by omega) hZ1).mono ?_
  rintro e w2 ⟨rfl, k2⟩
  have kk := Lib.hid (((keep_of_below (fun k => k = R ∨ k = Z) k1).trans k2).mono (S' := fun k => k = Z) fun i hi e => e.elim (fun e => by omega) id)
  clear k2
  go_wp2
  exact bodyPost_ret (v := .tuple #[.pointer none, .bool false]) (by simp [results, Tryz.results96, go_sem]) rfl ⟨rfl, kk.out⟩
theorem setString_99 (w : World) (Z : Nat) (p : Addr) (hz : BigAt w Z false (.slice none 0 0)) (he : w.cell? ⟨1, 0, none⟩ = some (.iface 252 (.pointer (some p)))) (hZ1 : Z ≠ 1) :
    Calls Tryz.prog 96 #[.pointer (some ⟨Z, 0, none⟩), .string t99, .int .i64 10] w fun e w' => ∃ N, e = .returned (.tuple #[.pointer (some ⟨Z, 0, none⟩), .bool true]) ∧ Wds w' N #[.int .u64 7766279631452241919, .int .u64 5, .int .u64 0, .int .u64 0, .int .u64 0, .int .u64 0] ∧ BigAt w' Z false (.slice (some ⟨N, 0, none⟩) 2 6) ∧ Keep (fun k => k = Z) w w' := by
  have hZl : Z < w.heap.size := cell_lt hz.c0
  have hel : 1 < w.heap.size := cell_lt he
  go_enter Tryz.func96, Tryz.ntmps96
  go_wp2_with fail
  refine (newReader_ok w t99).mono ?_
  rintro e w1 ⟨R, rfl, hR, hr, k1⟩
  have hz1 := hz.keep (S := fun _ => False) (keep_of_below _ k1) (fun h => h)
  have he1 := kept_cell k1 he
  go_wp2_with fail
  refine (from_99 w1 Z R p hz1 hr he1 (by omega) (by omega) hZ1).mono ?_
  rintro e w2 ⟨N, rfl, hd, hz2, k2⟩
  have kk := Lib.hid (And.intro hd (And.intro hz2 (((keep_of_below (fun k => k = R ∨ k = Z) k1).trans k2).mono (S' := fun k => k = Z) fun i hi e => e.elim (fun e => by omega) id)))
  clear k2 hd hz2
  go_wp2
  exact bodyPost_ret (v := .tuple #[.pointer (some ⟨Z, 0, none⟩), .bool true]) (by simp [results, Tryz.results96, go_sem]) rfl ⟨N, rfl, kk.out.1, kk.out.2.1, kk.out.2.2⟩
end Go.Proofs.YticjhbklcpoonaaGreatDoor
