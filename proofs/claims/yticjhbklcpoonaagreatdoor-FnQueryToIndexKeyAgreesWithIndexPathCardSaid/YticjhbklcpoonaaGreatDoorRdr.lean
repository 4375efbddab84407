/- (*strings.Reader).ReadByte, UnreadByte. -/
import Derived.Test.YticjhbklcpoonaaGreatDoorSlices
import Derived.Test.YticjhbklcpoonaaGreatDoorFacts
import Derived.Lib.Hide
namespace Go.Proofs.YticjhbklcpoonaaGreatDoor
open Go.RowKit Go.Gq
set_option maxRecDepth 100000
/-- A reader that stands at i. -/
def RdAt (w : World) (R : Nat) (s : ByteArray) (i : Nat) : Prop := w.heap[R]? = some (.cells #[.string s, .int .i64 i, .int .i64 (-1)] 213 (0, 0))
theorem RdAt.c0 {w : World} {R : Nat} {s : ByteArray} {i : Nat} (h : RdAt w R s i) : w.cell? ⟨R, 0, none⟩ = some (.string s) := by
  unfold RdAt at h; simp [World.cell?, h]
theorem RdAt.c1 {w : World} {R : Nat} {s : ByteArray} {i : Nat} (h : RdAt w R s i) : w.cell? ⟨R, 1, none⟩ = some (.int .i64 i) := by
  unfold RdAt at h; simp [World.cell?, h]
theorem RdAt.c2 {w : World} {R : Nat} {s : ByteArray} {i : Nat} (h : RdAt w R s i) : w.cell? ⟨R, 2, none⟩ = some (.int .i64 (-1)) := by
  unfold RdAt at h; simp [World.cell?, h]
theorem RdAt.fr {w : World} {R : Nat} {s : ByteArray} {i : Nat} (h : RdAt w R s i) (k : Nat) : w.frozen? ⟨R, k, none⟩ = false := by
  unfold RdAt at h; simp [World.frozen?, h]
theorem RdAt.keep {S : Nat → Prop} {w w' : World} {R : Nat} {s : ByteArray} {i : Nat} (h : RdAt w R s i) (k : Keep S w w') (hs : ¬ S R) : RdAt w' R s i := by
  unfold RdAt at *
  rw [k.block R (Array.getElem?_eq_some_iff.1 h).1 hs]; exact h
theorem keep_set (w : World) (p : Addr) (u : Value) : Keep (fun k => k = p.block) w (w.setCell p u) :=
  ⟨rfl, rfl, rfl, by simp [World.setCell], fun i _ h => Below.heap_setCell w p u i h⟩
theorem keep_drewN (S : Nat → Prop) (w : World) (n : Nat) : Keep S w (w.drewN n) := keep_of_below S (kept_drewN w n)
theorem keep_cell {S : Nat → Prop} {w w' : World} (k : Keep S w w') {a : Addr} {v : Value} (hc : w.cell? a = some v) (hs : ¬ S a.block) : w'.cell? a = some v := by
  rw [World.cell?_of_block (w := w) (k.block a.block (cell_lt hc) hs)]; exact hc
theorem RdAt.set2 {w : World} {R : Nat} {s : ByteArray} {i : Nat} (h : RdAt w R s i) : RdAt (w.setCell ⟨R, 2, none⟩ (.int .i64 (-1))) R s i := by
  unfold RdAt at *; simp [World.setCell, Array.getElem?_modify, h]
theorem RdAt.set1 {w : World} {R : Nat} {s : ByteArray} {i : Nat} (h : RdAt w R s i) (j : Int) (k : Nat) (hj : j = k) : RdAt (w.setCell ⟨R, 1, none⟩ (.int .i64 j)) R s k := by
  subst hj; unfold RdAt at *; simp [World.setCell, Array.getElem?_modify, h]
theorem readByte_ok (w : World) (R : Nat) (s : ByteArray) (i : Nat) (hs : s.size ≤ 4611686018427387904) (hi : i < s.size) (h : RdAt w R s i) :
    Calls Tryz.prog 254 #[.pointer (some ⟨R, 0, none⟩)] w fun e w' => e = .returned (.tuple #[.int .u8 (s[i]'hi).toNat, .nilIface]) ∧ RdAt w' R s (i + 1) ∧ Keep (fun k => k = R) w w' := by
  have z := h.fr 2
  have zc := h.c2
  have H := Lib.hid h
  have hs2 := h.set2
  have c0 := hs2.c0
  have c1 := hs2.c1
  have f1 := hs2.fr 1
  have K := Lib.hid (keep_set w ⟨R, 2, none⟩ (.int .i64 (-1)))
  generalize hW : w.setCell ⟨R, 2, none⟩ (.int .i64 (-1)) = W at *
  have H2 := Lib.hid hs2
  clear h hs2
  have q1 : ¬ ((s.size : Int) ≤ (i : Int)) := by omega
  have q2 : (0 : Int) ≤ (i : Int) := by omega
  have q3 : (i : Int) < (s.size : Int) := by omega
  go_enter Tryz.func254, Tryz.ntmps254
  go_wp2
  go_quiet (fail)
  go_wp2_with fail
  go_quiet (fail)
  go_wp2
  exact bodyPost_ret (v := .tuple #[.int .u8 (s[i]'hi).toNat, .nilIface]) (by simp [results, Tryz.results254, go_sem]) rfl ⟨rfl, RdAt.set1 (w := W.drewN _) H2.out _ _ (by omega), (K.out.trans (keep_drewN _ _ _)).trans (keep_set _ ⟨R, 1, none⟩ _)⟩
theorem readByte_end (w : World) (R : Nat) (s : ByteArray) (ev : Value) (_hs : s.size ≤ 4611686018427387904) (h : RdAt w R s s.size) (he : w.cell? ⟨1, 0, none⟩ = some ev) (hR : R ≠ 1) :
    Calls Tryz.prog 254 #[.pointer (some ⟨R, 0, none⟩)] w fun e w' => e = .returned (.tuple #[.int .u8 0, ev]) ∧ RdAt w' R s s.size ∧ Keep (fun k => k = R) w w' := by
  have z := h.fr 2
  have zc := h.c2
  have H := Lib.hid h
  have hs2 := h.set2
  have c0 := hs2.c0
  have c1 := hs2.c1
  have f1 := hs2.fr 1
  have hk := keep_set w ⟨R, 2, none⟩ (.int .i64 (-1))
  have he2 := keep_cell hk he (Ne.symm hR)
  have K := Lib.hid hk
  clear hk
  generalize hW : w.setCell ⟨R, 2, none⟩ (.int .i64 (-1)) = W at *
  have H2 := Lib.hid hs2
  clear h hs2
  have q1 : ((s.size : Int) ≤ (s.size : Int)) := by omega
  go_enter Tryz.func254, Tryz.ntmps254
  go_wp2
  go_quiet (fail)
  go_wp2_with fail
  go_quiet (fail)
  go_wp2
  exact bodyPost_ret (v := .tuple #[.int .u8 0, ev]) (by simp [results, Tryz.results254, go_sem]) rfl ⟨rfl, H2.out, (K.out.trans (keep_drewN _ _ _)).trans (keep_drewN _ _ _)⟩
theorem unreadByte_ok (w : World) (R : Nat) (s : ByteArray) (i : Nat) (hs : s.size ≤ 4611686018427387904) (hi : i < s.size) (h : RdAt w R s (i + 1)) :
    Calls Tryz.prog 255 #[.pointer (some ⟨R, 0, none⟩)] w fun e w' => e = .returned .nilIface ∧ RdAt w' R s i ∧ Keep (fun k => k = R) w w' := by
  have z := h.fr 2
  have zc := h.c2
  have H := Lib.hid h
  have hs2 := h.set2
  have c0 := hs2.c0
  have c1 := hs2.c1
  have f1 := hs2.fr 1
  have hk := keep_set w ⟨R, 2, none⟩ (.int .i64 (-1))
  have y1 := h.c1
  have K := Lib.hid hk
  clear hk
  generalize hW : w.setCell ⟨R, 2, none⟩ (.int .i64 (-1)) = W at *
  have H2 := Lib.hid hs2
  clear h hs2
  have q1 : ¬ (((i + 1 : Nat) : Int) ≤ 0) := by omega
  go_enter Tryz.func255, Tryz.ntmps255
  go_wp2
  go_ret
  exact ⟨rfl, RdAt.set1 H2.out _ _ rfl, K.out.trans (keep_set _ ⟨R, 1, none⟩ _)⟩
end Go.Proofs.YticjhbklcpoonaaGreatDoor
