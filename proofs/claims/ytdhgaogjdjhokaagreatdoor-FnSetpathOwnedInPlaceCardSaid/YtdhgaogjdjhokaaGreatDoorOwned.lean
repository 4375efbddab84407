/- The contract of ZZsetpathOwned: an array that the allocator made is set in place. -/
import Derived.Test.YtdhgaogjdjhokaaGreatDoorPlumb
import Derived.Test.YtdhgaogjdjhokaaGreatDoorOwn
namespace Go.Proofs.YtdhgaogjdjhokaaGreatDoor
open Go.RowKit Go.Gq
set_option maxRecDepth 100000
/-- The array with the place j set. -/
def ownG (xs : List Int) (n : Int) (j : Nat) : Nat → Option Int := fun t => if t = j then some n else some (xs.getD t 0)
/-- Two views that show it, and 'the same'. -/
def OwnTwo (xs : List Int) (n : Int) (n0 j : Nat) (w : World) (e : Ending) (w' : World) : Prop :=
  ∃ r1 r2, e = .returned (.tuple #[r1, r2, .bool true]) ∧ (VS.arr n0 (ownG xs n j)).Is [] 0 ⟨#[]⟩ (w.heap.size + 2) r1 w' ∧ (VS.arr n0 (ownG xs n j)).Is [] 0 ⟨#[]⟩ (w.heap.size + 2) r2 w' ∧ Kept w w'
/-- What setpath answers there. -/
def OwnR (b n0 : Nat) (xs : List Int) (n : Int) (j : Nat) (W : World) (u : Value) (w' : World) : Prop :=
  u = .iface 55 (.slice (some ⟨b, 0, none⟩) n0 n0) ∧ w'.rowIs b 20 n0 (fun t => if t = j then ia n else ia (xs.getD t 0)) ∧ Keep (fun x => x = b) W w'
set_option maxHeartbeats 4000000 in
theorem ZZsetpathOwned_any (a0 : Option Addr) (n0 c0 : Nat) (xs : List Int) (idx n : Int) (j : Nat) (w : World) (h0 : Rd w a0 n0 (vi xs)) (hn : n0 ≤ 65536) (hn0 : 0 < n0) (hi0 : -(n0 : Int) ≤ idx) (hj : (if idx < 0 then idx + n0 else idx) = j) (hjL : j < n0) :
    Calls Tryz.prog 25 #[.slice a0 n0 c0, .int .i64 idx, .int .i64 n] w (OwnTwo xs n n0 j w) := by
  have hmm : ∀ W : World, (Instr.makeMap 49 none).run Tryz.prog W = .ok (.map (some W.heap.size)) (W.alloc (.map #[] 0)) := fun W => by
    simp [Instr.makeMap]
  have HJ := Lib.hid hj
  have H0 := Lib.hid h0
  clear hj h0
  go_enter Tryz.func25, Tryz.ntmps25
  go_wp2_with fail
  have hk0 := (kept_alloc w (.cells #[.int .i64 0, .slice none 0 0, .slice none 0 0, .int .i64 0, .slice none 0 0, .slice none 0 0] 31)).trans (kept_alloc _ (.cells #[.int .i64 0, .slice none 0 0, .slice none 0 0, .int .i64 0, .slice none 0 0, .slice none 0 0] 31))
  have rowA : ((w.alloc (.cells #[.int .i64 0, .slice none 0 0, .slice none 0 0, .int .i64 0, .slice none 0 0, .slice none 0 0] 31)).alloc (.cells #[.int .i64 0, .slice none 0 0, .slice none 0 0, .int .i64 0, .slice none 0 0, .slice none 0 0] 31)).rowIs w.heap.size 31 6 _ := row_of (l := [_, _, _, _, _, _]) ((heap_alloc_old _ _ (by simp)).trans (heap_alloc_new w _))
  have rowB : ((w.alloc (.cells #[.int .i64 0, .slice none 0 0, .slice none 0 0, .int .i64 0, .slice none 0 0, .slice none 0 0] 31)).alloc (.cells #[.int .i64 0, .slice none 0 0, .slice none 0 0, .int .i64 0, .slice none 0 0, .slice none 0 0] 31)).rowIs (w.heap.size + 1) 31 6 _ := row_of (l := [_, _, _, _, _, _]) (by have := heap_alloc_new (w.alloc (.cells #[.int .i64 0, .slice none 0 0, .slice none 0 0, .int .i64 0, .slice none 0 0, .slice none 0 0] 31)) (.cells #[.int .i64 0, .slice none 0 0, .slice none 0 0, .int .i64 0, .slice none 0 0, .slice none 0 0] 31); simpa using this)
  have hsz : w.heap.size + 2 = ((w.alloc (.cells #[.int .i64 0, .slice none 0 0, .slice none 0 0, .int .i64 0, .slice none 0 0, .slice none 0 0] 31)).alloc (.cells #[.int .i64 0, .slice none 0 0, .slice none 0 0, .int .i64 0, .slice none 0 0, .slice none 0 0] 31)).heap.size := by simp
  generalize hWb : (w.alloc (.cells #[.int .i64 0, .slice none 0 0, .slice none 0 0, .int .i64 0, .slice none 0 0, .slice none 0 0] 31)).alloc (.cells #[.int .i64 0, .slice none 0 0, .slice none 0 0, .int .i64 0, .slice none 0 0, .slice none 0 0] 31) = Wb at *
  have Hsz := Lib.hid hsz
  clear hsz hWb
  obtain ⟨Wm, hWm⟩ : ∃ Wm : World, Wm = Wb.alloc (.map #[] 0) := ⟨_, rfl⟩
  have hkm : Kept Wb Wm := by rw [hWm]; exact kept_alloc _ _
  have hal : AllocIs Wm (some Wb.heap.size) [] := by rw [hWm]; exact .inr ⟨_, rfl, mapIs_new intKey Wb⟩
  have hszm : Wm.heap.size = Wb.heap.size + 1 := by rw [hWm]; simp
  rw [← hWm, show w.heap.size + 1 + 1 = Wb.heap.size from Hsz.out]
  have Hszm := Lib.hid hszm
  clear hmm hWm hszm
  refine (makeArray_any (some Wb.heap.size) n0 n0 n0 (by simp) (by omega) Wm hal _ _ rfl rfl).mono ?_
  rintro e w1 ⟨b, rfl, hb, hrow, hkp, hal1⟩
  have hkb1 : Kept Wb w1 := Below.trans hkm (hkp.below hkm.size (fun i e => by injection e with e; omega))
  have hm1 : w1.MapIs intKey Wb.heap.size [((0 : Int), .iface 55 (.slice (some ⟨b, 0, none⟩) n0 n0))] := by
    rcases hal1 with ⟨h, _⟩ | ⟨c, h1, h2⟩
    · cases h
    · injection h1 with h1
      subst h1
      exact h2
  have hbb : Wb.heap.size < b := by have := Hszm.out; omega
  have hbl : b < w1.heap.size := hrow.lt
  have HF := Lib.hid (And.intro hkb1 (And.intro hm1 (And.intro hk0 (And.intro rowA rowB))))
  have HR := Lib.hid hrow
  clear hkb1 hm1 hk0 rowA rowB hrow hkp hal1 hal hkm hb
  go_wp2_with fail
  go_loopw [11] (fun i wr => ∃ k : Nat, k ≤ n0 ∧ i = .int .i64 k ∧ Hid (wr.rowIs b 20 n0 (fun t => if t < k then ia (xs.getD t 0) else .nilIface) ∧ Keep (fun x => x = b) w1 wr)) (fun i _ => n0 - (intOf i).toNat)
  case atStart => exact ⟨0, Nat.zero_le _, rfl, HR.out, Keep.refl _ _⟩
  case round =>
    obtain ⟨k, hk, rfl, HH⟩ := hrel
    by_cases hlt : k < n0
    · obtain ⟨hrow, hkp⟩ := HH.out
      have hin : Rd wr a0 n0 (vi xs) := ((H0.out.kept HF.out.2.2.1).kept HF.out.1).keep hkp (fun x e h => by
        obtain ⟨b', off, e', hc⟩ := ((H0.out.kept HF.out.2.2.1).at (k := 0) hn0)
        rw [e] at e'
        injection e' with e'
        subst e'
        have := cell_lt hc
        simp at this h
        omega)
      obtain ⟨b', off, rfl, hc⟩ := hin.at hlt
      have hd := hrow.cell hlt
      have hz := hrow.frozen k
      have hset := (hrow.set k (ia (xs.getD k 0))).congr (g := fun t => if t < k + 1 then ia (xs.getD t 0) else .nilIface) (fun t ht => by
        by_cases e : t = k
        · subst e; simp
        · simp only [if_neg e]; by_cases e2 : t < k
          · rw [if_pos e2, if_pos (by omega)]
          · rw [if_neg e2, if_neg (by omega)])
      have hkp2 : Keep (fun x => x = b) w1 (wr.setCell ⟨b, k, none⟩ (ia (xs.getD k 0))) := hkp.trans ⟨rfl, rfl, rfl, by simp, fun i _ hn => Below.heap_setCell _ _ _ _ fun e => hn e⟩
      obtain ⟨z, hzz⟩ : ∃ z, z = xs.getD k 0 := ⟨_, rfl⟩
      simp only [vi, ← hzz] at hc
      rw [← hzz] at hset hkp2
      have Hset := Lib.hid hset
      have Hkp := Lib.hid hkp2
      simp only [Nat.lt_irrefl, if_false] at hd
      have q7 : (0 : Int) ≤ (k : Int) := by omega
      have q8 : (k : Int) < (n0 : Int) := by omega
      clear hset hkp2 hrow hkp hin hzz HH
      go_wp2
      go_roundw
      case rel => exact ⟨k + 1, by omega, by go_num, Hset.out, Hkp.out⟩
      case measure => simp [intOf]; omega
    · obtain rfl : k = n0 := by omega
      obtain ⟨hrow, hkp⟩ := HH.out
      have hrow' := hrow.congr (g := fun t => ia (xs.getD t 0)) (fun t ht => if_pos ht)
      have hkr : Kept Wb wr := Below.trans HF.out.1 (hkp.below HF.out.1.size (fun i e => by omega))
      have hmr : wr.MapIs intKey Wb.heap.size [((0 : Int), .iface 55 (.slice (some ⟨b, 0, none⟩) k k))] := mapIs_of_block intKey HF.out.2.1 (hkp.block _ (mapIs_lt intKey HF.out.2.1) (by omega))
      have hblr : b < wr.heap.size := hrow.lt
      have HX := Lib.hid (And.intro hrow' (And.intro hkr hmr))
      clear hrow hrow' hkp hkr hmr HH HR
      go_wp2_with fail
      obtain ⟨W3, hW3⟩ : ∃ W3 : World, W3 = wr.alloc (.cells #[ia idx] 20) := ⟨_, rfl⟩
      have hk3 : Kept wr W3 := by rw [hW3]; exact kept_alloc _ _
      have hp3 : W3.cell? ⟨wr.heap.size, 0, none⟩ = some (ia idx) := by rw [hW3]; simp
      rw [show wr.alloc (.cells #[.iface 3 (.int .i64 idx)] 20) = W3 from hW3.symm]
      obtain ⟨hrow, hkr, hmr⟩ := HX.out
      refine (setpath_ok (R := OwnR b k xs n j W3) (.iface 55 (.slice (some ⟨b, 0, none⟩) k k)) (ia n) (some ⟨wr.heap.size, 0, none⟩) 1 1 (some Wb.heap.size) W3 (update_idx_arr wr.heap.size (ia n) (some Wb.heap.size) W3 (some ⟨b, 0, none⟩) k k idx hp3 ((updateArrayIndex_own Wb.heap.size b k k k k (fun t => ia (xs.getD t 0)) idx j _ _ _ _ W3 (rowIs_kept hrow hk3) (by omega) HJ.out hjL (by omega) (by omega) (Nat.le_refl _) hn0 (by omega) (mapIs_of_block intKey hmr (hk3.block _ (mapIs_lt intKey hmr)))).mono fun e w' ⟨h1, h2, h3⟩ => ⟨_, _, h1, rfl, rfl, h2, h3⟩))).mono ?_
      rintro e w4 ⟨u, rfl, rfl, hrow4, hkp4⟩
      have hkb4 : Kept Wb w4 := Below.trans (hkr.trans hk3) (hkp4.below (hkr.trans hk3).size (fun i e => by omega))
      have HY := Lib.hid (And.intro hrow4 hkb4)
      clear hrow4 hkb4 hkp4 hrow hkr hmr hk3 hp3 hW3 HX
      have p0 : (0 : Int) < (k : Int) := by omega
      have p1 : (1 : Int) ≤ (k : Int) := by omega
      obtain ⟨jj, hjj⟩ : ∃ jj, Tryz.prog.info? 20 = some jj := Option.isSome_iff_exists.1 (by kernel_rfl)
      have hpe : ∀ W : World, (binOp .eql 58 (.pointer (some ⟨b, 0, none⟩)) (.pointer (some ⟨b, 0, none⟩))).run Tryz.prog W = .ok (.bool true) W := fun W => run_eql_ptr_same W _ Tryz.underlying58 hjj
      clear hjj
      go_wp2_with fail
      go_quiet (fail)
      go_wp2_with fail
      clear hpe
      obtain ⟨hrow4, hkb4⟩ := HY.out
      obtain ⟨w6, hw6⟩ : ∃ w6 : World, w6 = w4.drewN nq := ⟨_, rfl⟩
      rw [← hw6]
      have hkb6 : Kept Wb w6 := by rw [hw6]; exact hkb4.trans (kept_drewN _ _)
      have hrow6 : w6.rowIs b 20 k (fun t => if t = j then ia n else ia (xs.getD t 0)) := by rw [hw6]; exact rowIs_kept hrow4 (kept_drewN _ _)
      obtain ⟨hk0, rowA, rowB⟩ := HF.out.2.2
      have hk06 : Kept w w6 := hk0.trans hkb6
      have hres : Res (.arr k (ownG xs n j)) (.iface 55 (.slice (some ⟨b, 0, none⟩) k k)) w6 := ⟨by omega, b, k, rfl, (rd_row hrow6).congr fun t ht => by
        unfold ownG; split <;> rfl⟩
      clear hrow4 hkb4 hrow6 hw6 HY HF H0 HJ hi0
      refine (res_view _ _ [] none 0 0 ⟨#[]⟩ w6 hres (.inl rfl) (by omega)).mono ?_
      rintro e w7 ⟨r1, rfl, hr1, hk4⟩
      go_wp2_with fail
      refine (res_view _ _ [] none 0 0 ⟨#[]⟩ w7 (hres.kept hk4) (.inl rfl) (by omega)).mono ?_
      rintro e w5 ⟨r2, rfl, hr2, hk5⟩
      obtain ⟨k1, x1, l1, d1, x2, l2, d2, m1, x3, l3, d3, x4, l4, d4, hs1⟩ := hr1.shape
      obtain ⟨k2, y1, j1, g1, y2, j2, g2, m2, y3, j3, g3, y4, j4, g4, hs2⟩ := hr2.shape
      have hk05 := (hk06.trans hk4).trans hk5
      have hk25 := (hkb6.trans hk4).trans hk5
      have RA := rowIs_kept rowA hk25
      have RB := rowIs_kept rowB hk25
      have hsz3 : w.heap.size + 2 ≤ w6.heap.size := by have := Hsz.out; have := hkb6.size; omega
      have hr1' := (hr1.kept hk5).low hsz3
      have hr2' := hr2.low (Nat.le_trans hsz3 hk4.size)
      subst hs1 hs2
      have a0' := RA.cell (i := 0) (by omega)
      have a1' := RA.cell (i := 1) (by omega)
      have a2' := RA.cell (i := 2) (by omega)
      have a3' := RA.cell (i := 3) (by omega)
      have a4' := RA.cell (i := 4) (by omega)
      have a5' := RA.cell (i := 5) (by omega)
      have b0' := RB.cell (i := 0) (by omega)
      have b1' := RB.cell (i := 1) (by omega)
      have b2' := RB.cell (i := 2) (by omega)
      have b3' := RB.cell (i := 3) (by omega)
      have b4' := RB.cell (i := 4) (by omega)
      have b5' := RB.cell (i := 5) (by omega)
      have za0 := RA.frozen 0
      have za1 := RA.frozen 1
      have za2 := RA.frozen 2
      have za3 := RA.frozen 3
      have za4 := RA.frozen 4
      have za5 := RA.frozen 5
      have zb0 := RB.frozen 0
      have zb1 := RB.frozen 1
      have zb2 := RB.frozen 2
      have zb3 := RB.frozen 3
      have zb4 := RB.frozen 4
      have zb5 := RB.frozen 5
      simp only [List.getD_cons_succ, List.getD_cons_zero] at a0' a1' a2' a3' a4' a5' b0' b1' b2' b3' b4' b5'
      have HH : Hid (_ ∧ _ ∧ _ ∧ _ ∧ _) := ⟨hr1', hr2', hk05, RA, RB⟩
      clear hr1' hr1 hr2 hr2' hk05 RA RB hk25 rowA rowB hk4 hk5 hk06 hkb6 hk0 hres
      unfold vagg
      go_wp2_with fail
      obtain ⟨hr1', hr2, hk05, RA, RB⟩ := HH.out
      have F1 := six_row RA (.int .i64 k1) (.slice x1 l1 d1) (.slice x2 l2 d2) (.int .i64 m1) (.slice x3 l3 d3) (.slice x4 l4 d4)
      have F2 := six_other RB (show w.heap.size + 1 ≠ w.heap.size by omega) (.int .i64 k1) (.slice x1 l1 d1) (.slice x2 l2 d2) (.int .i64 m1) (.slice x3 l3 d3) (.slice x4 l4 d4)
      have K1 := six_below hk05 (Nat.le_refl w.heap.size) (.int .i64 k1) (.slice x1 l1 d1) (.slice x2 l2 d2) (.int .i64 m1) (.slice x3 l3 d3) (.slice x4 l4 d4)
      have V1 := hr1'.six (b := w.heap.size) (by omega) (.int .i64 k1) (.slice x1 l1 d1) (.slice x2 l2 d2) (.int .i64 m1) (.slice x3 l3 d3) (.slice x4 l4 d4)
      have V2 := hr2.six (b := w.heap.size) (by omega) (.int .i64 k1) (.slice x1 l1 d1) (.slice x2 l2 d2) (.int .i64 m1) (.slice x3 l3 d3) (.slice x4 l4 d4)
      generalize hW1 : six w5 w.heap.size (.int .i64 k1) (.slice x1 l1 d1) (.slice x2 l2 d2) (.int .i64 m1) (.slice x3 l3 d3) (.slice x4 l4 d4) = W1 at F1 F2 K1 V1 V2
      unfold six at hW1
      rw [hW1]
      have G1 := six_row F2 (.int .i64 k2) (.slice y1 j1 g1) (.slice y2 j2 g2) (.int .i64 m2) (.slice y3 j3 g3) (.slice y4 j4 g4)
      have G2 := six_other F1 (show w.heap.size ≠ w.heap.size + 1 by omega) (.int .i64 k2) (.slice y1 j1 g1) (.slice y2 j2 g2) (.int .i64 m2) (.slice y3 j3 g3) (.slice y4 j4 g4)
      have K2 := six_below K1 (show w.heap.size ≤ w.heap.size + 1 by omega) (.int .i64 k2) (.slice y1 j1 g1) (.slice y2 j2 g2) (.int .i64 m2) (.slice y3 j3 g3) (.slice y4 j4 g4)
      have U1 := V1.six (b := w.heap.size + 1) (by omega) (.int .i64 k2) (.slice y1 j1 g1) (.slice y2 j2 g2) (.int .i64 m2) (.slice y3 j3 g3) (.slice y4 j4 g4)
      have U2 := V2.six (b := w.heap.size + 1) (by omega) (.int .i64 k2) (.slice y1 j1 g1) (.slice y2 j2 g2) (.int .i64 m2) (.slice y3 j3 g3) (.slice y4 j4 g4)
      generalize hW2 : six W1 (w.heap.size + 1) (.int .i64 k2) (.slice y1 j1 g1) (.slice y2 j2 g2) (.int .i64 m2) (.slice y3 j3 g3) (.slice y4 j4 g4) = W2 at G1 G2 K2 U1 U2
      unfold six at hW2
      rw [hW2]
      have e0 := G2.cell (i := 0) (by omega)
      have e1 := G2.cell (i := 1) (by omega)
      have e2 := G2.cell (i := 2) (by omega)
      have e3 := G2.cell (i := 3) (by omega)
      have e4 := G2.cell (i := 4) (by omega)
      have e5 := G2.cell (i := 5) (by omega)
      have q0 := G1.cell (i := 0) (by omega)
      have q1 := G1.cell (i := 1) (by omega)
      have q2 := G1.cell (i := 2) (by omega)
      have q3 := G1.cell (i := 3) (by omega)
      have q4 := G1.cell (i := 4) (by omega)
      have q5 := G1.cell (i := 5) (by omega)
      simp only [List.getD_cons_succ, List.getD_cons_zero] at e0 e1 e2 e3 e4 e5 q0 q1 q2 q3 q4 q5
      refine bodyPost_ret (v := .tuple #[vagg k1 x1 l1 d1 x2 l2 d2 m1 x3 l3 d3 x4 l4 d4, vagg k2 y1 j1 g1 y2 j2 g2 m2 y3 j3 g3 y4 j4 g4, .bool true]) (by simp [results, Tryz.results25, go_sem, vagg, e0, e1, e2, e3, e4, e5, q0, q1, q2, q3, q4, q5]) rfl ?_
      exact ⟨_, _, rfl, U1, U2, K2⟩
end Go.Proofs.YtdhgaogjdjhokaaGreatDoor
