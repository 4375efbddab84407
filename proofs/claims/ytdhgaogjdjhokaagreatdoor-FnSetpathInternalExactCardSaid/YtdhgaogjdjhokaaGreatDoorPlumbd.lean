/- The contract of ZZsetpath. -/
import Derived.Test.YtdhgaogjdjhokaaGreatDoorPlumbb
namespace Go.Proofs.YtdhgaogjdjhokaaGreatDoor
open Go.RowKit Go.Gq
set_option maxRecDepth 100000
set_option maxHeartbeats 4000000 in
theorem ZZsetpath_f (kind : Int) (a0 : Option Addr) (n0 c0 : Nat) (a1 : Option Addr) (n1 c1 : Nat) (xs : List Int) (ss : List ByteArray) (pkind idx : Int) (key : ByteArray) (n : Int) (w : World) (h0 : Rd w a0 n0 (vi xs)) (h1 : Rd w a1 n1 (vs ss)) (hn : n0 ≤ 65536) (hn1 : n1 ≤ 65536) (h2 : kind = 2 → n1 = n0)
    (hi0 : -9223372036854775808 ≤ idx) (hcap : pkind = 1 → ¬ (65536 ≤ idx ∧ idx < 536870912)) :
    Calls Tryz.prog 17 #[.int .i64 kind, .slice a0 n0 c0, .slice a1 n1 c1, .int .i64 pkind, .int .i64 idx, .string key, .int .i64 n, .bool false] w (TwoViews ss n1 (docOf kind n0 xs ss) pkind idx key n w) := by
  have hmm : ∀ W : World, (Instr.makeMap 49 none).run Tryz.prog W = .ok (.map (some W.heap.size)) (W.alloc (.map #[] 0)) := fun W => by
    simp [Instr.makeMap]
  have Hcap := Lib.hid hcap
  have H2 := Lib.hid h2
  clear hcap h2
  go_enter Tryz.func17, Tryz.ntmps17
  go_wp2_with fail
  have hk0 := (kept_alloc w (.cells #[.int .i64 0, .slice none 0 0, .slice none 0 0, .int .i64 0, .slice none 0 0, .slice none 0 0] 31)).trans (kept_alloc _ (.cells #[.int .i64 0, .slice none 0 0, .slice none 0 0, .int .i64 0, .slice none 0 0, .slice none 0 0] 31))
  have rowA : ((w.alloc (.cells #[.int .i64 0, .slice none 0 0, .slice none 0 0, .int .i64 0, .slice none 0 0, .slice none 0 0] 31)).alloc (.cells #[.int .i64 0, .slice none 0 0, .slice none 0 0, .int .i64 0, .slice none 0 0, .slice none 0 0] 31)).rowIs w.heap.size 31 6 _ := row_of (l := [_, _, _, _, _, _]) ((heap_alloc_old _ _ (by simp)).trans (heap_alloc_new w _))
  have rowB : ((w.alloc (.cells #[.int .i64 0, .slice none 0 0, .slice none 0 0, .int .i64 0, .slice none 0 0, .slice none 0 0] 31)).alloc (.cells #[.int .i64 0, .slice none 0 0, .slice none 0 0, .int .i64 0, .slice none 0 0, .slice none 0 0] 31)).rowIs (w.heap.size + 1) 31 6 _ := row_of (l := [_, _, _, _, _, _]) (by have := heap_alloc_new (w.alloc (.cells #[.int .i64 0, .slice none 0 0, .slice none 0 0, .int .i64 0, .slice none 0 0, .slice none 0 0] 31)) (.cells #[.int .i64 0, .slice none 0 0, .slice none 0 0, .int .i64 0, .slice none 0 0, .slice none 0 0] 31); simpa using this)
  have hsz : w.heap.size + 2 = ((w.alloc (.cells #[.int .i64 0, .slice none 0 0, .slice none 0 0, .int .i64 0, .slice none 0 0, .slice none 0 0] 31)).alloc (.cells #[.int .i64 0, .slice none 0 0, .slice none 0 0, .int .i64 0, .slice none 0 0, .slice none 0 0] 31)).heap.size := by simp
  generalize hWb : (w.alloc (.cells #[.int .i64 0, .slice none 0 0, .slice none 0 0, .int .i64 0, .slice none 0 0, .slice none 0 0] 31)).alloc (.cells #[.int .i64 0, .slice none 0 0, .slice none 0 0, .int .i64 0, .slice none 0 0, .slice none 0 0] 31) = Wb at *
  have Hsz := Lib.hid hsz
  clear hsz hWb
  have hkm : Kept Wb Wb := Below.refl _ _
  have hal : AllocIs Wb none [] := .inl ⟨rfl, rfl⟩
  refine (zzDoc_any kind a0 n0 c0 a1 n1 c1 xs ss _ (h0.kept (hk0.trans hkm)) (h1.kept (hk0.trans hkm)) hn H2.out).mono ?_
  rintro e w1 ⟨v, rfl, hd1, hsep, hk1⟩
  go_wp2_with fail
  refine (zzPath_any pkind idx key w1).mono ?_
  rintro e w2 ⟨p, rfl, hp2, hk2⟩
  have hd2 := hd1.kept hk2
  have hal2 := (hal.kept hk1).kept hk2
  go_wp2_with fail
  refine (setpath_all _ v p pkind idx key n none w2 hd2 hp2 hal2 (fun b e h => by cases h) hi0 Hcap.out).mono ?_
  rintro e w3 ⟨u, rfl, ⟨S, hS, hu⟩, hkp3⟩
  have hd3 : DocIs (docOf kind n0 xs ss) v w3 := hd2.keep hkp3 hal2 (fun b e h => by cases h)
  have hkb2 := (hkm.trans hk1).trans hk2
  have hb3 : Below Wb.heap.size w2 w3 := hkp3.below hkb2.size (fun i e => by cases e)
  have hkb3 : Kept Wb w3 := Below.trans hkb2 hb3
  have hk03 := hk0.trans hkb3
  clear hd1 hd2 hp2 hk1 hk2 hal hal2 hb3 hkp3 hkb2 hkm hsep
  go_wp2_with fail
  refine (res_view S u ss a1 n1 c1 key w3 hu (h1.kept hk03) (by omega)).mono ?_
  rintro e w4 ⟨r1, rfl, hr1, hk4⟩
  go_wp2_with fail
  refine (res_view _ v ss a1 n1 c1 key w4 (hd3.kept hk4).res (h1.kept (hk03.trans hk4)) (by omega)).mono ?_
  rintro e w5 ⟨r2, rfl, hr2, hk5⟩
  obtain ⟨k1, x1, l1, d1, x2, l2, d2, m1, x3, l3, d3, x4, l4, d4, hs1⟩ := hr1.shape
  obtain ⟨k2, y1, j1, g1, y2, j2, g2, m2, y3, j3, g3, y4, j4, g4, hs2⟩ := hr2.shape
  have hk05 := (hk03.trans hk4).trans hk5
  have hk25 := (hkb3.trans hk4).trans hk5
  have RA := rowIs_kept rowA hk25
  have RB := rowIs_kept rowB hk25
  have hsz3 : w.heap.size + 2 ≤ w3.heap.size := by have := Hsz.out; have := hkb3.size; omega
  have hr1' := (hr1.kept hk5).low hsz3
  have hr2' := hr2.low (Nat.le_trans hsz3 hk4.size)
  subst hs1 hs2
  have a0' := RA.cell (i := 0) (by omega)
  have a1' := RA.cell (i := 1) (by omega)
  have a2' := RA.cell (i := 2) (by omega)
  have a3' := RA.cell (i := 3) (by omega)
  have a4' := RA.cell (i := 4) (by omega)
  have a5' := RA.cell (i := 5) (by omega)
  have b0' := RB.cell (i := 0) (by omega)
  have b1' := RB.cell (i := 1) (by omega)
  have b2' := RB.cell (i := 2) (by omega)
  have b3' := RB.cell (i := 3) (by omega)
  have b4' := RB.cell (i := 4) (by omega)
  have b5' := RB.cell (i := 5) (by omega)
  have za0 := RA.frozen 0
  have za1 := RA.frozen 1
  have za2 := RA.frozen 2
  have za3 := RA.frozen 3
  have za4 := RA.frozen 4
  have za5 := RA.frozen 5
  have zb0 := RB.frozen 0
  have zb1 := RB.frozen 1
  have zb2 := RB.frozen 2
  have zb3 := RB.frozen 3
  have zb4 := RB.frozen 4
  have zb5 := RB.frozen 5
  simp only [List.getD_cons_succ, List.getD_cons_zero] at a0' a1' a2' a3' a4' a5' b0' b1' b2' b3' b4' b5'
  have HH : Hid (_ ∧ _ ∧ _ ∧ _ ∧ _ ∧ _) := ⟨hS, hr1', hr2', hk05, RA, RB⟩
  clear hS hr1' hr1 hr2 hr2' hk05 RA RB hk25 rowA rowB hk4 hk5 hk03 hkb3 hk0 hu hd3 h0 h1
  unfold vagg
  go_wp2_with fail
  obtain ⟨hS, hr1', hr2, hk05, RA, RB⟩ := HH.out
  have F1 := six_row RA (.int .i64 k1) (.slice x1 l1 d1) (.slice x2 l2 d2) (.int .i64 m1) (.slice x3 l3 d3) (.slice x4 l4 d4)
  have F2 := six_other RB (show w.heap.size + 1 ≠ w.heap.size by omega) (.int .i64 k1) (.slice x1 l1 d1) (.slice x2 l2 d2) (.int .i64 m1) (.slice x3 l3 d3) (.slice x4 l4 d4)
  have K1 := six_below hk05 (Nat.le_refl w.heap.size) (.int .i64 k1) (.slice x1 l1 d1) (.slice x2 l2 d2) (.int .i64 m1) (.slice x3 l3 d3) (.slice x4 l4 d4)
  have V1 := hr1'.six (b := w.heap.size) (by omega) (.int .i64 k1) (.slice x1 l1 d1) (.slice x2 l2 d2) (.int .i64 m1) (.slice x3 l3 d3) (.slice x4 l4 d4)
  have V2 := hr2.six (b := w.heap.size) (by omega) (.int .i64 k1) (.slice x1 l1 d1) (.slice x2 l2 d2) (.int .i64 m1) (.slice x3 l3 d3) (.slice x4 l4 d4)
  generalize hW1 : six w5 w.heap.size (.int .i64 k1) (.slice x1 l1 d1) (.slice x2 l2 d2) (.int .i64 m1) (.slice x3 l3 d3) (.slice x4 l4 d4) = W1 at F1 F2 K1 V1 V2
  unfold six at hW1
  rw [hW1]
  have G1 := six_row F2 (.int .i64 k2) (.slice y1 j1 g1) (.slice y2 j2 g2) (.int .i64 m2) (.slice y3 j3 g3) (.slice y4 j4 g4)
  have G2 := six_other F1 (show w.heap.size ≠ w.heap.size + 1 by omega) (.int .i64 k2) (.slice y1 j1 g1) (.slice y2 j2 g2) (.int .i64 m2) (.slice y3 j3 g3) (.slice y4 j4 g4)
  have K2 := six_below K1 (show w.heap.size ≤ w.heap.size + 1 by omega) (.int .i64 k2) (.slice y1 j1 g1) (.slice y2 j2 g2) (.int .i64 m2) (.slice y3 j3 g3) (.slice y4 j4 g4)
  have U1 := V1.six (b := w.heap.size + 1) (by omega) (.int .i64 k2) (.slice y1 j1 g1) (.slice y2 j2 g2) (.int .i64 m2) (.slice y3 j3 g3) (.slice y4 j4 g4)
  have U2 := V2.six (b := w.heap.size + 1) (by omega) (.int .i64 k2) (.slice y1 j1 g1) (.slice y2 j2 g2) (.int .i64 m2) (.slice y3 j3 g3) (.slice y4 j4 g4)
  generalize hW2 : six W1 (w.heap.size + 1) (.int .i64 k2) (.slice y1 j1 g1) (.slice y2 j2 g2) (.int .i64 m2) (.slice y3 j3 g3) (.slice y4 j4 g4) = W2 at G1 G2 K2 U1 U2
  unfold six at hW2
  rw [hW2]
  have e0 := G2.cell (i := 0) (by omega)
  have e1 := G2.cell (i := 1) (by omega)
  have e2 := G2.cell (i := 2) (by omega)
  have e3 := G2.cell (i := 3) (by omega)
  have e4 := G2.cell (i := 4) (by omega)
  have e5 := G2.cell (i := 5) (by omega)
  have q0 := G1.cell (i := 0) (by omega)
  have q1 := G1.cell (i := 1) (by omega)
  have q2 := G1.cell (i := 2) (by omega)
  have q3 := G1.cell (i := 3) (by omega)
  have q4 := G1.cell (i := 4) (by omega)
  have q5 := G1.cell (i := 5) (by omega)
  simp only [List.getD_cons_succ, List.getD_cons_zero] at e0 e1 e2 e3 e4 e5 q0 q1 q2 q3 q4 q5
  refine bodyPost_ret (v := .tuple #[vagg k1 x1 l1 d1 x2 l2 d2 m1 x3 l3 d3 x4 l4 d4, vagg k2 y1 j1 g1 y2 j2 g2 m2 y3 j3 g3 y4 j4 g4]) (by simp [results, Tryz.results17, go_sem, vagg, e0, e1, e2, e3, e4, e5, q0, q1, q2, q3, q4, q5]) rfl ?_
  exact ⟨S, _, _, rfl, hS, U1, U2, K2⟩
end Go.Proofs.YtdhgaogjdjhokaaGreatDoor
