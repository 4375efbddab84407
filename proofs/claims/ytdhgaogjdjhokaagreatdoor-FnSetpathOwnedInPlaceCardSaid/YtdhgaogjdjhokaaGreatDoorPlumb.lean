/- The exported callers: document, path, call, two views. -/
import Derived.Test.YtdhgaogjdjhokaaGreatDoorSet
namespace Go.Proofs.YtdhgaogjdjhokaaGreatDoor
open Go.RowKit Go.Gq
set_option maxRecDepth 100000
def docOf (kind : Int) (n0 : Nat) (xs : List Int) (ss : List ByteArray) : Doc :=
  if kind = 1 then .arr n0 xs else if kind = 2 then .obj n0 ss xs else if kind = 3 then .int else .null
theorem zzDoc_any (kind : Int) (a0 : Option Addr) (n0 c0 : Nat) (a1 : Option Addr) (n1 c1 : Nat) (xs : List Int) (ss : List ByteArray) (w : World) (h0 : Rd w a0 n0 (vi xs)) (h1 : Rd w a1 n1 (vs ss)) (hn : n0 ≤ 65536) (h2 : kind = 2 → n1 = n0) :
    Calls Tryz.prog 27 #[.int .i64 kind, .slice a0 n0 c0, .slice a1 n1 c1] w fun e w' => ∃ v, e = .returned v ∧ DocIs (docOf kind n0 xs ss) v w' ∧ (∀ b, v = .iface 59 (.map (some b)) → w.heap.size ≤ b) ∧ Kept w w' := by
  by_cases k1 : kind = 1
  · subst k1
    exact (zzDoc_arr a0 n0 c0 a1 n1 c1 xs w h0 (by omega)).mono fun e w' ⟨b, h3, h4, h5, h6⟩ => ⟨_, h3, ⟨hn, b, rfl, h5⟩, (fun c e => by cases e), h6⟩
  · by_cases k2 : kind = 2
    · subst k2
      obtain rfl := h2 rfl
      exact (zzDoc_obj a0 n1 c0 a1 c1 xs ss w h0 h1 (by omega)).mono fun e w' ⟨b, h3, h4, h5, h6⟩ => ⟨_, h3, ⟨hn, b, rfl, h5⟩, (fun c e => by cases e; exact h4), h6⟩
    · by_cases k3 : kind = 3
      · subst k3
        exact (zzDoc_int a0 n0 c0 a1 n1 c1 w).mono fun e w' ⟨h3, h4⟩ => ⟨_, h3, rfl, (fun c e => by cases e), h4 ▸ Below.refl _ _⟩
      · exact (zzDoc_null kind a0 n0 c0 a1 n1 c1 w (by simpa using k1) (by simpa using k2) (by simpa using k3)).mono fun e w' ⟨h3, h4⟩ => ⟨_, h3, by unfold docOf; rw [if_neg k1, if_neg k2, if_neg k3]; rfl, (fun c e => by cases e), h4 ▸ Below.refl _ _⟩
theorem zzPath_any (pkind idx : Int) (key : ByteArray) (w : World) :
    Calls Tryz.prog 29 #[.int .i64 pkind, .int .i64 idx, .string key] w fun e w' => ∃ p, e = .returned p ∧ PathIs pkind idx key p w' ∧ Kept w w' := by
  by_cases p0 : pkind = 0
  · subst p0
    exact (zzPath_empty idx key w).mono fun e w' ⟨⟨a, c, h1⟩, h2⟩ => ⟨_, h1, ⟨a, c, rfl⟩, h2⟩
  · by_cases p1 : pkind = 1
    · subst p1
      exact (zzPath_idx idx key w).mono fun e w' ⟨b, h1, h2, h3, h4⟩ => ⟨_, h1, ⟨b, rfl, h3⟩, h4⟩
    · by_cases p2 : pkind = 2
      · subst p2
        exact (zzPath_key idx key w).mono fun e w' ⟨b, h1, h2, h3, h4⟩ => ⟨_, h1, ⟨b, rfl, h3⟩, h4⟩
      · exact (zzPath_bad pkind idx key w (by simpa using p0) (by simpa using p1) (by simpa using p2)).mono fun e w' ⟨h1, h2⟩ => ⟨_, h1, by unfold PathIs; rw [if_neg p0, if_neg p1, if_neg p2], h2 ▸ Below.refl _ _⟩
/-- Two views: the answer's, the document's behind the call. -/
def TwoViews (ss : List ByteArray) (n1 : Nat) (D : Doc) (pkind idx : Int) (key : ByteArray) (n : Int) (w : World) (e : Ending) (w' : World) : Prop :=
  ∃ S r1 r2, e = .returned (.tuple #[r1, r2]) ∧ AnsOK D pkind idx key n S ∧ S.Is ss n1 key (w.heap.size + 2) r1 w' ∧ D.show.Is ss n1 key (w.heap.size + 2) r2 w' ∧ Kept w w'
set_option maxHeartbeats 2000000 in
theorem ZZfuncSetpath_any (kind : Int) (a0 : Option Addr) (n0 c0 : Nat) (a1 : Option Addr) (n1 c1 : Nat) (xs : List Int) (ss : List ByteArray) (pkind idx : Int) (key : ByteArray) (n : Int) (w : World) (h0 : Rd w a0 n0 (vi xs)) (h1 : Rd w a1 n1 (vs ss)) (hn : n0 ≤ 65536) (hn1 : n1 ≤ 65536) (h2 : kind = 2 → n1 = n0)
    (hi0 : -9223372036854775808 ≤ idx) (hcap : pkind = 1 → ¬ (65536 ≤ idx ∧ idx < 536870912)) :
    Calls Tryz.prog 14 #[.int .i64 kind, .slice a0 n0 c0, .slice a1 n1 c1, .int .i64 pkind, .int .i64 idx, .string key, .int .i64 n] w (TwoViews ss n1 (docOf kind n0 xs ss) pkind idx key n w) := by
  have Hcap := Lib.hid hcap
  have H2 := Lib.hid h2
  clear hcap h2
  go_enter Tryz.func14, Tryz.ntmps14
  go_wp2_with fail
  have hk0 := (kept_alloc w (.cells #[.int .i64 0, .slice none 0 0, .slice none 0 0, .int .i64 0, .slice none 0 0, .slice none 0 0] 31)).trans (kept_alloc _ (.cells #[.int .i64 0, .slice none 0 0, .slice none 0 0, .int .i64 0, .slice none 0 0, .slice none 0 0] 31))
  have rowA : ((w.alloc (.cells #[.int .i64 0, .slice none 0 0, .slice none 0 0, .int .i64 0, .slice none 0 0, .slice none 0 0] 31)).alloc (.cells #[.int .i64 0, .slice none 0 0, .slice none 0 0, .int .i64 0, .slice none 0 0, .slice none 0 0] 31)).rowIs w.heap.size 31 6 _ := row_of (l := [_, _, _, _, _, _]) ((heap_alloc_old _ _ (by simp)).trans (heap_alloc_new w _))
  have rowB : ((w.alloc (.cells #[.int .i64 0, .slice none 0 0, .slice none 0 0, .int .i64 0, .slice none 0 0, .slice none 0 0] 31)).alloc (.cells #[.int .i64 0, .slice none 0 0, .slice none 0 0, .int .i64 0, .slice none 0 0, .slice none 0 0] 31)).rowIs (w.heap.size + 1) 31 6 _ := row_of (l := [_, _, _, _, _, _]) (by have := heap_alloc_new (w.alloc (.cells #[.int .i64 0, .slice none 0 0, .slice none 0 0, .int .i64 0, .slice none 0 0, .slice none 0 0] 31)) (.cells #[.int .i64 0, .slice none 0 0, .slice none 0 0, .int .i64 0, .slice none 0 0, .slice none 0 0] 31); simpa using this)
  have hsz : w.heap.size + 2 = ((w.alloc (.cells #[.int .i64 0, .slice none 0 0, .slice none 0 0, .int .i64 0, .slice none 0 0, .slice none 0 0] 31)).alloc (.cells #[.int .i64 0, .slice none 0 0, .slice none 0 0, .int .i64 0, .slice none 0 0, .slice none 0 0] 31)).heap.size := by simp
  have Hsz := Lib.hid hsz
  clear hsz
  refine (zzDoc_any kind a0 n0 c0 a1 n1 c1 xs ss _ (h0.kept hk0) (h1.kept hk0) hn H2.out).mono ?_
  rintro e w1 ⟨v, rfl, hd1, _, hk1⟩
  go_wp2_with fail
  refine (zzPath_any pkind idx key w1).mono ?_
  rintro e w2 ⟨p, rfl, hp2, hk2⟩
  have hd2 := hd1.kept hk2
  go_wp2_with fail
  refine (funcSetpath_run v p _ w2 (setpath_all _ v p pkind idx key n none w2 hd2 hp2 (.inl ⟨rfl, rfl⟩) (fun _ _ e => by cases e) hi0 Hcap.out)).mono ?_
  rintro e w3 ⟨u, rfl, ⟨S, hS, hu⟩, hkp3⟩
  have hk3 : Kept w2 w3 := hkp3.below (Nat.le_refl _) (fun i e => by cases e)
  have hk03 := ((hk0.trans hk1).trans hk2).trans hk3
  go_wp2_with fail
  refine (res_view S u ss a1 n1 c1 key w3 hu (h1.kept hk03) (by omega)).mono ?_
  rintro e w4 ⟨r1, rfl, hr1, hk4⟩
  go_wp2_with fail
  refine (res_view _ v ss a1 n1 c1 key w4 ((hd2.kept hk3).kept hk4).res (h1.kept (hk03.trans hk4)) (by omega)).mono ?_
  rintro e w5 ⟨r2, rfl, hr2, hk5⟩
  obtain ⟨k1, x1, l1, d1, x2, l2, d2, m1, x3, l3, d3, x4, l4, d4, hs1⟩ := hr1.shape
  obtain ⟨k2, y1, j1, g1, y2, j2, g2, m2, y3, j3, g3, y4, j4, g4, hs2⟩ := hr2.shape
  have hk05 := (hk03.trans hk4).trans hk5
  have hk25 := (((hk1.trans hk2).trans hk3).trans hk4).trans hk5
  have RA := rowIs_kept rowA hk25
  have RB := rowIs_kept rowB hk25
  have hsz3 : w.heap.size + 2 ≤ w3.heap.size := by have := Hsz.out; have := hk1.size; have := hk2.size; have := hk3.size; omega
  have hr1' := (hr1.kept hk5).low hsz3
  have hr2' := hr2.low (Nat.le_trans hsz3 hk4.size)
  subst hs1 hs2
  have a0' := RA.cell (i := 0) (by omega)
  have a1' := RA.cell (i := 1) (by omega)
  have a2' := RA.cell (i := 2) (by omega)
  have a3' := RA.cell (i := 3) (by omega)
  have a4' := RA.cell (i := 4) (by omega)
  have a5' := RA.cell (i := 5) (by omega)
  have b0' := RB.cell (i := 0) (by omega)
  have b1' := RB.cell (i := 1) (by omega)
  have b2' := RB.cell (i := 2) (by omega)
  have b3' := RB.cell (i := 3) (by omega)
  have b4' := RB.cell (i := 4) (by omega)
  have b5' := RB.cell (i := 5) (by omega)
  have za0 := RA.frozen 0
  have za1 := RA.frozen 1
  have za2 := RA.frozen 2
  have za3 := RA.frozen 3
  have za4 := RA.frozen 4
  have za5 := RA.frozen 5
  have zb0 := RB.frozen 0
  have zb1 := RB.frozen 1
  have zb2 := RB.frozen 2
  have zb3 := RB.frozen 3
  have zb4 := RB.frozen 4
  have zb5 := RB.frozen 5
  simp only [List.getD_cons_succ, List.getD_cons_zero] at a0' a1' a2' a3' a4' a5' b0' b1' b2' b3' b4' b5'
  have HH : Hid (_ ∧ _ ∧ _ ∧ _ ∧ _ ∧ _) := ⟨hS, hr1', hr2', hk05, RA, RB⟩
  clear hS hr1' hr1 hr2 hr2' hk05 RA RB hk25 rowA rowB hk4 hk5 hk03 hk3 hk2 hk1 hk0 hu hd1 hd2 hp2 h0 h1
  unfold vagg
  go_wp2_with fail
  obtain ⟨hS, hr1', hr2, hk05, RA, RB⟩ := HH.out
  have F1 := six_row RA (.int .i64 k1) (.slice x1 l1 d1) (.slice x2 l2 d2) (.int .i64 m1) (.slice x3 l3 d3) (.slice x4 l4 d4)
  have F2 := six_other RB (show w.heap.size + 1 ≠ w.heap.size by omega) (.int .i64 k1) (.slice x1 l1 d1) (.slice x2 l2 d2) (.int .i64 m1) (.slice x3 l3 d3) (.slice x4 l4 d4)
  have K1 := six_below hk05 (Nat.le_refl w.heap.size) (.int .i64 k1) (.slice x1 l1 d1) (.slice x2 l2 d2) (.int .i64 m1) (.slice x3 l3 d3) (.slice x4 l4 d4)
  have V1 := hr1'.six (b := w.heap.size) (by omega) (.int .i64 k1) (.slice x1 l1 d1) (.slice x2 l2 d2) (.int .i64 m1) (.slice x3 l3 d3) (.slice x4 l4 d4)
  have V2 := hr2.six (b := w.heap.size) (by omega) (.int .i64 k1) (.slice x1 l1 d1) (.slice x2 l2 d2) (.int .i64 m1) (.slice x3 l3 d3) (.slice x4 l4 d4)
  generalize hW1 : six w5 w.heap.size (.int .i64 k1) (.slice x1 l1 d1) (.slice x2 l2 d2) (.int .i64 m1) (.slice x3 l3 d3) (.slice x4 l4 d4) = W1 at F1 F2 K1 V1 V2
  unfold six at hW1
  rw [hW1]
  have G1 := six_row F2 (.int .i64 k2) (.slice y1 j1 g1) (.slice y2 j2 g2) (.int .i64 m2) (.slice y3 j3 g3) (.slice y4 j4 g4)
  have G2 := six_other F1 (show w.heap.size ≠ w.heap.size + 1 by omega) (.int .i64 k2) (.slice y1 j1 g1) (.slice y2 j2 g2) (.int .i64 m2) (.slice y3 j3 g3) (.slice y4 j4 g4)
  have K2 := six_below K1 (show w.heap.size ≤ w.heap.size + 1 by omega) (.int .i64 k2) (.slice y1 j1 g1) (.slice y2 j2 g2) (.int .i64 m2) (.slice y3 j3 g3) (.slice y4 j4 g4)
  have U1 := V1.six (b := w.heap.size + 1) (by omega) (.int .i64 k2) (.slice y1 j1 g1) (.slice y2 j2 g2) (.int .i64 m2) (.slice y3 j3 g3) (.slice y4 j4 g4)
  have U2 := V2.six (b := w.heap.size + 1) (by omega) (.int .i64 k2) (.slice y1 j1 g1) (.slice y2 j2 g2) (.int .i64 m2) (.slice y3 j3 g3) (.slice y4 j4 g4)
  generalize hW2 : six W1 (w.heap.size + 1) (.int .i64 k2) (.slice y1 j1 g1) (.slice y2 j2 g2) (.int .i64 m2) (.slice y3 j3 g3) (.slice y4 j4 g4) = W2 at G1 G2 K2 U1 U2
  unfold six at hW2
  rw [hW2]
  have e0 := G2.cell (i := 0) (by omega)
  have e1 := G2.cell (i := 1) (by omega)
  have e2 := G2.cell (i := 2) (by omega)
  have e3 := G2.cell (i := 3) (by omega)
  have e4 := G2.cell (i := 4) (by omega)
  have e5 := G2.cell (i := 5) (by omega)
  have q0 := G1.cell (i := 0) (by omega)
  have q1 := G1.cell (i := 1) (by omega)
  have q2 := G1.cell (i := 2) (by omega)
  have q3 := G1.cell (i := 3) (by omega)
  have q4 := G1.cell (i := 4) (by omega)
  have q5 := G1.cell (i := 5) (by omega)
  simp only [List.getD_cons_succ, List.getD_cons_zero] at e0 e1 e2 e3 e4 e5 q0 q1 q2 q3 q4 q5
  refine bodyPost_ret (v := .tuple #[vagg k1 x1 l1 d1 x2 l2 d2 m1 x3 l3 d3 x4 l4 d4, vagg k2 y1 j1 g1 y2 j2 g2 m2 y3 j3 g3 y4 j4 g4]) (by simp [results, Tryz.results14, go_sem, vagg, e0, e1, e2, e3, e4, e5, q0, q1, q2, q3, q4, q5]) rfl ?_
  exact ⟨S, _, _, rfl, hS, U1, U2, K2⟩
end Go.Proofs.YtdhgaogjdjhokaaGreatDoor
