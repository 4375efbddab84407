/- The walk of FnQueryToIndicesParenSplit. -/
import Derived.Test.YtelbnidpchemiaaGreatDoorPth
namespace Go.Proofs.YtelbnidpchemiaaGreatDoor
open Go.RowKit Go.Gq
set_option maxRecDepth 100000
theorem pkL_app (kd : Nat → Int) (n1 : Nat) (s1 : Nat → ByteArray) (c m : Nat) : pkL kd n1 s1 c ++ (List.range m).map (fun j => pkA kd n1 s1 (c + j)) = pkL kd n1 s1 (c + m) := by
  unfold pkL
  rw [List.range_add, List.map_append, List.map_map]
  rfl
set_option maxHeartbeats 1000000 in
theorem zzBytes_FnQueryToIndicesParenSplit_any (a0 : Option Addr) (n0 c0 : Nat) (_kd : Nat → Int) (a1 : Option Addr) (n1 c1 : Nat) (s1 : Nat → ByteArray) (ct : Int) (w : World) (h1 : Rd w a1 n1 (fun i => .string (s1 i))) (m0 : n0 ≤ 9223372036854775807) (m1 : n1 ≤ 9223372036854775807) (k1 : ∀ i, i < n1 → (s1 i).size ≤ 9223372036854775807) :
    Calls Tryz.prog 45 #[.slice a0 n0 c0, .slice a1 n1 c1, .int .u16 ct] w (SomeBool w) := by
  have H1 := Lib.hid h1
  have H1S := Lib.hid k1
  clear h1 k1
  by_cases g0 : n0 ≤ 1048576
  rotate_left
  · go_enter Tryz.func45, Tryz.ntmps45
    go_wp2
    go_ret
    exact ⟨false, rfl, rfl⟩
  by_cases g1 : n1 ≤ 1048576
  rotate_left
  · go_enter Tryz.func45, Tryz.ntmps45
    go_wp2
    go_ret
    exact ⟨false, rfl, rfl⟩
  by_cases g2 : (n0 : Int) + (n1 : Int) ≤ 1048576
  rotate_left
  · go_enter Tryz.func45, Tryz.ntmps45
    go_wp2
    go_ret
    exact ⟨false, rfl, rfl⟩
  go_enter Tryz.func45, Tryz.ntmps45
  go_wp2
  go_loop [7, 8] (fun t i => ∃ (k : Nat) (z : Int), k ≤ n1 ∧ i = .int .i64 k ∧ t = .int .i64 z ∧ 0 ≤ z ∧ z ≤ 1048576) (fun _ i => n1 - (intOf i).toNat)
  case atStart => exact ⟨0, _, Nat.zero_le _, rfl, rfl, by omega, by omega⟩
  case round =>
    obtain ⟨k, z0, hk, rfl, rfl, hz0, hz1⟩ := hrel
    by_cases hlt : k < n1
    · obtain ⟨b, off, e1, hc⟩ := H1.out.at hlt
      subst e1
      obtain ⟨x, hx⟩ : ∃ x, x = s1 k := ⟨_, rfl⟩
      have hsz : x.size ≤ 9223372036854775807 := by rw [hx]; exact H1S.out k hlt
      rw [← hx] at hc
      clear hx
      by_cases q1 : x.size ≤ 1048576
      rotate_left
      · go_wp2
        go_ret
        exact ⟨false, rfl, rfl⟩
      by_cases q2 : z0 + x.size ≤ 1048576
      rotate_left
      · go_wp2
        go_ret
        exact ⟨false, rfl, rfl⟩
      go_wp2
      go_round
      case rel => exact ⟨k + 1, z0 + x.size, by omega, by go_num, rfl, by omega, by omega⟩
      case measure => simp [intOf]; omega
    have hk2 : (n1 : Int) ≤ (k : Int) := by omega
    go_wp2
    go_ret
    exact ⟨true, rfl, rfl⟩
set_option maxHeartbeats 16000000 in
theorem FnQueryToIndicesParenSplit_walk (a0 : Option Addr) (n0 c0 : Nat) (kd : Nat → Int) (a1 : Option Addr) (n1 c1 : Nat) (s1 : Nat → ByteArray) (ct : Int) (w : World) (h0 : Rd w a0 n0 (fun i => .int .u8 (kd i))) (hkd : ∀ i, i < n0 → 0 ≤ kd i ∧ kd i < 256) (h1 : Rd w a1 n1 (fun i => .string (s1 i))) (m0 : n0 ≤ 9223372036854775807) (m1 : n1 ≤ 9223372036854775807) (k1 : ∀ i, i < n1 → (s1 i).size ≤ 9223372036854775807) (hc0 : 0 ≤ ct) (hc1 : ct < 65536) :
    Calls Tryz.prog 10 #[.slice a0 n0 c0, .slice a1 n1 c1, .int .u16 ct] w (TrueKept w) := by
  have H0 := Lib.hid h0
  have H1 := Lib.hid h1
  have HKD := Lib.hid hkd
  have HZ := zzBytes_FnQueryToIndicesParenSplit_any a0 n0 c0 kd a1 n1 c1 s1 ct w h1 m0 m1 k1
  clear h0 h1 k1 hkd
  go_enter Tryz.func10, Tryz.ntmps10
  go_wp2_with fail
  refine HZ.mono ?_
  rintro e w1 ⟨b, rfl, rfl⟩
  clear HZ
  cases b with
  | false =>
    go_wp2
    go_ret
    exact ⟨rfl, Below.refl _ _⟩
  | true =>
  by_cases g0 : 65536 < n0
  · go_wp2
    go_ret
    exact ⟨rfl, Below.refl _ _⟩
  by_cases g1 : 65536 < n1
  · go_wp2
    go_ret
    exact ⟨rfl, Below.refl _ _⟩
  go_wp2_with fail
  refine (zzStrsBytes_any a1 n1 c1 s1 w H1.out m1).mono ?_
  rintro e w1 ⟨t1, rfl, rfl⟩
  by_cases g3 : (1048576 : Int) < wrap64 ((n0 : Int) + t1)
  · go_wp2
    go_ret
    exact ⟨rfl, Below.refl _ _⟩
  by_cases hz : n0 = 0
  · subst hz
    have hz2 : (((0 : Nat) : Int) == 0) = true := by simp
    go_wp2
    all_goals go_ret
    all_goals exact ⟨rfl, Below.refl _ _⟩
  have hz2 : ((n0 : Int) == 0) = false := by simp; omega
  go_wp2_with fail
  clear g3
  refine (zzCloneU8s_rd a0 n0 c0 kd w (by omega) H0.out).mono ?_
  rintro e w1 ⟨x0, xc0, rfl, hr, hk1⟩
  have RK1 := Lib.hid hr
  have K1 := Lib.hid hk1
  clear hr hk1
  go_wp2_with fail
  refine (zzCloneStrs_rd a1 n1 c1 s1 w1 (by omega) (H1.out.kept K1.out)).mono ?_
  rintro e w2 ⟨x1, xc1, rfl, hr, hk2⟩
  have RN2 := Lib.hid hr
  have RK2 := Lib.hid (RK1.out.kept hk2)
  have K2 := Lib.hid (K1.out.trans hk2)
  clear hr hk2 RK1 K1 H0 H1
  obtain ⟨c, hc, hcl, hcn⟩ : ∃ c : Nat, wrap64 (ct % (n0 : Int) + 1) = (c : Int) ∧ 1 ≤ c ∧ c ≤ n0 := by
    have e2 := Int.emod_nonneg ct (show (n0 : Int) ≠ 0 by omega)
    have e3 := Int.emod_lt_of_pos ct (show (0 : Int) < (n0 : Int) by omega)
    refine ⟨(ct % (n0 : Int)).toNat + 1, ?_, by omega, by omega⟩
    unfold wrap64
    omega
  have HCW := Lib.hid hc
  clear hc
  have hn0 : ¬ (n0 : Int) = 0 := by omega
  go_wp2_with fail
  rw [HCW.out]
  refine (zzPathTerm_any x0 n0 xc0 kd x1 n1 xc1 s1 n0 w2 RK2.out RN2.out HKD.out (by omega) (by omega) (by omega) (Nat.le_refl _)).mono ?_
  rintro e w3 ⟨t, rfl, ht1, htl, hk3⟩
  have HTF := Lib.hid (And.intro ht1 htl)
  have K3 := Lib.hid (K2.out.trans hk3)
  have RN3 := Lib.hid (RN2.out.kept hk3)
  have RK3 := Lib.hid (RK2.out.kept hk3)
  clear ht1 htl hk3 RN2 RK2 K2
  go_wp2_with fail
  obtain ⟨w4, hW⟩ : ∃ W : World, W = w3.alloc (.cells (queryC t) 42) := ⟨_, rfl⟩
  have hk4 : Kept w3 w4 := by rw [hW]; exact kept_alloc _ _
  have hz4 : w4.heap.size = w3.heap.size + 1 := by rw [hW]; simp
  have hc3 : w4.cell? ⟨w3.heap.size, 3, none⟩ = some (bq t) := by rw [hW]; exact cell_fresh _ _ _ 3 _ rfl
  rw [← hW]
  obtain ⟨q1, hq1⟩ : ∃ q, q = w3.heap.size := ⟨_, rfl⟩
  rw [← hq1] at hc3 ⊢
  have HQ1 : Hid (∀ W, Kept w4 W → QueryIx W.heap.size W q1 (pkL kd n1 s1 n0)) := fun W hW => query_term W.heap.size q1 t _ W (by have := hW.size; omega) (kept_cell hW hc3) (HTF.out.1 W (hk4.trans hW))
  have K4 := Lib.hid (K3.out.trans hk4)
  have RN4 := Lib.hid (RN3.out.kept hk4)
  have RK4 := Lib.hid (RK3.out.kept hk4)
  clear hW hk4 hz4 hc3 RN3 RK3 K3 HTF hq1
  refine (zzPathTerm_any x0 n0 xc0 kd x1 n1 xc1 s1 c w4 RK4.out RN4.out HKD.out (by omega) (by omega) (by omega) hcn).mono ?_
  rintro e w5 ⟨t2, rfl, ht1, htl, hk5⟩
  have HTG := Lib.hid (And.intro ht1 htl)
  have K5 := Lib.hid (K4.out.trans hk5)
  have HQ5 : Hid (∀ W, Kept w5 W → QueryIx W.heap.size W q1 (pkL kd n1 s1 n0)) := fun W hW => HQ1.out W (hk5.trans hW)
  have RN := Lib.hid (RN4.out.kept hk5)
  have RK := Lib.hid (RK4.out.kept hk5)
  clear ht1 htl hk5 RN4 RK4 K4 HQ1
  go_wp2_with fail
  obtain ⟨W1, hW1⟩ : ∃ W : World, W = w5.alloc (.cells (queryC t2) 42) := ⟨_, rfl⟩
  obtain ⟨W, hW⟩ : ∃ W : World, W = W1.alloc (.cells (termC 20 np ⟨#[]⟩ np np (bq w5.heap.size) ns) 88) := ⟨_, rfl⟩
  have hs1 : W1.heap.size = w5.heap.size + 1 := by rw [hW1]; simp
  have hrow := term_row W1 20 np (bq w5.heap.size) ns
  have hk1 : Kept w5 W1 := by rw [hW1]; exact kept_alloc _ _
  have hk11 : Kept W1 W := by rw [hW]; exact kept_alloc _ _
  have hc3 : W1.cell? ⟨w5.heap.size, 3, none⟩ = some (bq t2) := by rw [hW1]; exact cell_fresh _ _ _ 3 _ rfl
  rw [← hW1, ← hW, ← hs1]
  rw [← hW] at hrow
  obtain ⟨q2, hq2⟩ : ∃ q, q = w5.heap.size := ⟨_, rfl⟩
  rw [← hq2] at hrow hc3
  have HST0 : Hid (TermSt W1.heap.size W W1.heap.size (termF 20 np (bq q2)) ns (c - c) (fun _ => 0) (fun j => pk (kd (c + j)) (tx n1 s1 (c + j))) none ∧ Below W1.heap.size W1 W) :=
    ⟨⟨Nat.le_refl _, hrow, by rw [Nat.sub_self]; exact World.ownsRow_nil _ _ _ _, fun j hj => absurd hj (by omega), fun i o e => by cases e⟩, hk11⟩
  have HC3 := Lib.hid hc3
  have HQL : Hid (q2 < W1.heap.size) := by show q2 < _; omega
  have HTG1 : Hid (∀ W, Kept W1 W → TermIx W.heap.size W t2 (pkL kd n1 s1 c)) := fun W hW => HTG.out.1 W (hk1.trans hW)
  have HQ6 : Hid (∀ W, Kept W1 W → QueryIx W.heap.size W q1 (pkL kd n1 s1 n0)) := fun W hW => HQ5.out W (hk1.trans hW)
  have KW1 := Lib.hid (K5.out.trans hk1)
  have RN1 := Lib.hid (RN.out.kept hk1)
  have RK1' := Lib.hid (RK.out.kept hk1)
  clear hW1 hW hs1 hrow hk11 hk1 hc3 hq2 HTG HQ5 K5 RN RK
  have RN := RN1
  have RK := RK1'
  clear RN1 RK1'
  go_wp2_with fail
  go_loopw [11, 12, 13] (fun x _ _ wr => ∃ (k : Nat) (v : Value) (sb : Nat → Nat), c ≤ k ∧ k ≤ n0 ∧ x = .int .i64 k ∧ Hid (TermSt W1.heap.size wr W1.heap.size (termF 20 np (bq q2)) v (k - c) sb (fun j => pk (kd (c + j)) (tx n1 s1 (c + j))) none ∧ Below W1.heap.size W1 wr)) (fun x _ _ _ => n0 - (intOf x).toNat)
  case atStart => exact ⟨c, _, _, Nat.le_refl _, by omega, by go_num, HST0.out⟩
  case round =>
  obtain ⟨k, vv, sb, hk0, hk, rfl, HR⟩ := hrel
  by_cases hlt : k < n0
  · obtain ⟨hst, hb⟩ := HR.out
    have hkb : Kept W1 wr := hb
    obtain ⟨xb, xo, rfl, hc0⟩ := (RK.out.kept hkb).at (k := k) (by omega)
    have hkd := HKD.out k (by omega)
    obtain ⟨kk, hkk⟩ : ∃ kk, kk = kd k := ⟨_, rfl⟩
    rw [← hkk] at hc0 hkd
    have HKK := Lib.hid hkk
    have q4 : (0 : Int) ≤ (k : Int) := by omega
    have q5 : (k : Int) < (n0 : Int) := by omega
    have q6 : (k : Int) < (n0 : Int) := by omega
    have HR2 := Lib.hid (And.intro hst hkb)
    clear hkk hst hb hkb HR HST0
    have kd1 := kept_drew wr
    have htx := zzTextAt_any x1 n1 xc1 s1 k wr.drew (RN.out.kept (HR2.out.2.trans kd1)) (by omega) (by omega)
    go_wp2_with fail
    go_region_held3 (fun W' => Kept wr W' ∧ W'.cell? ⟨xb, xo + k, none⟩ = some (.int .u8 kk)) (first | exact ⟨kd1, hc0⟩ | exact ⟨kd1.trans hk1, kept_cell hk1 hc0⟩)
      (first
        | (go_at_call 49; refine htx.mono ?_; rintro e w9 ⟨rfl, rfl⟩)
        | (go_at_call 48; refine (zzPathStep_any kk (tx n1 s1 k) _ hkd.1 hkd.2).mono ?_; rintro e v1 ⟨ip9, sf, rfl, hsf, _, hk1⟩))
    clear htx
    have hst1 := HR2.out.1.kept (kd1.trans hk1)
    have hb1 : Kept W1 v1 := HR2.out.2.trans (kd1.trans hk1)
    obtain ⟨sa, sc, hv, _, _⟩ := hst1.slice
    subst hv
    obtain ⟨m, hm⟩ : ∃ m, m = k - c := ⟨_, rfl⟩
    have hm2 : k + 1 - c = m + 1 := by omega
    rw [← hm] at hst1
    have hko : (fun j => pk (kd (c + j)) (tx n1 s1 (c + j))) m = pk kk (tx n1 s1 k) := by
      show pk (kd _) (tx n1 s1 _) = _
      rw [show c + m = k by omega, HKK.out]
    have hrow := hst1.2.1
    have hd : v1.cell? ⟨W1.heap.size, 16, none⟩ = some (.slice sa m sc) := by
      have := hrow.cell (i := 16) (by omega)
      simpa using this
    have hown2 := own_alloc hst1.2.2.1 (.cells #[bq sf] 60)
    have hc := cell_fresh v1 #[bq sf] 60 0 (bq sf) rfl
    have hB2 : W1.heap.size ≤ (v1.alloc (.cells #[bq sf] 60)).heap.size := (below_al hb1 (Nat.le_refl _) _).size
    have hsf2 : SufH v1 sf ((fun j => pk (kd (c + j)) (tx n1 s1 (c + j))) m) := by rw [hko]; exact hsf
    have HW := Lib.hid (And.intro hst1 (And.intro hsf2 hb1))
    have hmn : m ≤ 4194304 := by omega
    have HMm := Lib.hid hm2
    clear hst1 hsf hsf2 hb1 hk1 kd1 hko hm hm2
    go_wp2_with (first
      | (at_builtin; refine wpl_app1g rfl _ _ 86 60 rfl Tryz.underlying86 tixSfx rfl (by omega) W1.heap.size _ (.slice sa m sc) m _ rfl hown2 v1.heap.size (bq sf) rfl hc rfl hmn hB2 ?_; intro g2 cap2 w2 ho2 hb2 hg2; have hrow2 := row_grown (by decide) (hrow.alloc _) hown2 hg2; have hd2 := hrow2.cell (i := 16) (by omega); have hz2 := hrow2.frozen 16))
    have HZ := Lib.hid (And.intro ho2 (And.intro hb2 hg2))
    clear ho2 hb2 hg2 hown2 hc hB2 hrow hrow2 hd2 hz2 hd
    go_roundw
    case rel =>
      refine ⟨k + 1, .slice (some ⟨g2, 0, none⟩) (m + 1) cap2, (fun j => if j = m then sf else sb j), by omega, by omega, by go_num, ?_, ?_⟩
      · have := HW.out.1.app HW.out.2.1 HZ.out.1 HZ.out.2.2
        rw [HMm.out]
        exact this
      · exact ((below_al HW.out.2.2 (Nat.le_refl _) _).trans HZ.out.2.1).setCell (p := ⟨W1.heap.size, 16, none⟩) HW.out.1.1 _
    case measure => simp [intOf]; omega
  obtain rfl : k = n0 := by omega
  obtain ⟨hst, hb⟩ := HR.out
  have HOut : Hid (∀ W, Kept wr W → TermIx W.heap.size W W1.heap.size (pkL kd n1 s1 k)) := by
    intro W hW
    obtain ⟨sa, sc, hv, hrd, hblk⟩ := hst.slice
    subst hv
    obtain ⟨m, hm⟩ : ∃ m, m = k - c := ⟨_, rfl⟩
    rw [← hm] at hst hrd
    have hlt2 := hst.2.1.lt
    have hsz := hW.size
    have hql := HQL.out
    have hbs := hb.size
    have := term_query W.heap.size W1.heap.size q2 sa m sc (fun j => pk (kd (c + j)) (tx n1 s1 (c + j))) sb (pkL kd n1 s1 c) W (by omega) (kept_cell hW (hst.2.1.cell (i := 0) (by omega))) (kept_cell hW (hst.2.1.cell (i := 15) (by omega))) (query_term W.heap.size q2 t2 _ W (by omega) (kept_cell hW (kept_cell hb HC3.out)) (HTG1.out W (Kept.trans hb hW))) (kept_cell hW (hst.2.1.cell (i := 16) (by omega))) (hrd.kept hW) (fun x e => by have := hblk x e; omega) (fun j hj => ((hst.2.2.2.1 j hj).is).up hW hsz)
    rw [show k = c + m by omega, ← pkL_app]
    exact this
  have KR := Lib.hid (KW1.out.trans hb)
  have hrl := hst.2.1.lt
  have HRL := Lib.hid hrl
  have HQ7 : Hid (∀ W, Kept wr W → QueryIx W.heap.size W q1 (pkL kd n1 s1 k)) := fun W hW => HQ6.out W (Kept.trans hb hW)
  clear hst hb HR HST0 HQ6 HTG1 hrl
  go_wp2_with fail
  obtain ⟨W8, hW⟩ : ∃ W : World, W = wr.alloc (.cells (queryC W1.heap.size) 42) := ⟨_, rfl⟩
  have hk8 : Kept wr W8 := by rw [hW]; exact kept_alloc _ _
  have hz8 : W8.heap.size = wr.heap.size + 1 := by rw [hW]; simp
  have hc8 : W8.cell? ⟨wr.heap.size, 3, none⟩ = some (bq W1.heap.size) := by rw [hW]; exact cell_fresh _ _ _ 3 _ rfl
  rw [← hW]
  have HQ8 : Hid (∀ W, Kept W8 W → QueryIx W.heap.size W wr.heap.size (pkL kd n1 s1 k)) := fun W hW => query_term W.heap.size wr.heap.size W1.heap.size _ W (by have := hW.size; omega) (kept_cell hW hc8) (HOut.out W (hk8.trans hW))
  have hlk : (pkL kd n1 s1 k).length = k := by simp [pkL]
  have K8 := Lib.hid (KR.out.trans hk8)
  refine (ZZQueryToIndices_any q1 _ none 0 0 (fun _ => ⟨#[]⟩) W8 (HQ7.out W8 hk8) (.inl rfl) (by omega) (by omega) (by omega)).mono ?_
  rintro e w9 ⟨hk9, r1⟩
  have K9 := Lib.hid (K8.out.trans hk9)
  have HK9 := Lib.hid hk9
  clear hW hk8 hz8 hc8 hk9
  rcases r1 with ⟨hn1, rfl⟩ | ⟨ss1, b1, hs1, rfl, hr1⟩
  · have HN1 := Lib.hid hn1
    clear hn1
    go_wp2_with fail
    refine (ZZQueryToIndices_any wr.heap.size _ none 0 0 (fun _ => ⟨#[]⟩) w9 (HQ8.out w9 HK9.out) (.inl rfl) (by omega) (by omega) (by omega)).mono ?_
    rintro e w10 ⟨hk10, r2⟩
    have KF := Lib.hid (K9.out.trans hk10)
    clear hk10
    rcases r2 with ⟨_, rfl⟩ | ⟨ss2, b2, hs2, _⟩
    · go_wp2
      go_ret
      exact ⟨rfl, KF.out⟩
    · rw [HN1.out] at hs2
      cases hs2
  obtain ⟨M, hM⟩ : ∃ M, M = 0 + ss1.length := ⟨_, rfl⟩
  rw [← hM] at hr1 ⊢
  have HM := Lib.hid hM
  have HS1 := Lib.hid (And.intro hs1 hr1)
  clear hs1 hr1 hM
  go_wp2_with fail
  refine (ZZQueryToIndices_any wr.heap.size _ none 0 0 (fun _ => ⟨#[]⟩) w9 (HQ8.out w9 HK9.out) (.inl rfl) (by omega) (by omega) (by omega)).mono ?_
  rintro e w10 ⟨hk10, r2⟩
  have KF := Lib.hid (K9.out.trans hk10)
  have HD1 := Lib.hid (HS1.out.2.kept hk10)
  clear hk10
  rcases r2 with ⟨hn2, rfl⟩ | ⟨ss2, b2, hs2, rfl, hr2⟩
  · rw [HS1.out.1] at hn2
    cases hn2
  obtain rfl : ss1 = ss2 := by
    rw [HS1.out.1] at hs2
    injection hs2
  have hM2 : M = k := by rw [HM.out, allSome_len HS1.out.1, hlk]; omega
  rw [← HM.out] at hr2 ⊢
  have HD2 := Lib.hid hr2
  have HD1' : Hid (Rd w10 (some ⟨b1, 0, none⟩) M (fun i => .string (ss1.getD i ⟨#[]⟩))) := HD1.out
  have HD2' : Hid (Rd w10 (some ⟨b2, 0, none⟩) M (fun i => .string (ss1.getD i ⟨#[]⟩))) := HD2.out
  have q0 : ((M : Int) != (M : Int)) = false := by simp
  have hm9 : M ≤ 65536 := by omega
  clear hr2 HD1 HD2 HS1 hs2 hM2 HM
  go_wp2_with fail
  go_loopw [25] (fun i wr => ∃ k r : Nat, k ≤ M ∧ i = .int .i64 k ∧ wr = w10.drewN r) (fun i _ => M - (intOf i).toNat)
  case atStart => exact ⟨0, 0, Nat.zero_le _, rfl, rfl⟩
  case round =>
  obtain ⟨p, r, hp, rfl, rfl⟩ := hrel
  by_cases hlt : p < M
  · have hx := rd_at0 HD1'.out hlt
    have hy := rd_at0 HD2'.out hlt
    obtain ⟨x, hxx⟩ : ∃ x, x = ss1.getD p ⟨#[]⟩ := ⟨_, rfl⟩
    rw [← hxx] at hx hy
    have q4 : (0 : Int) ≤ (p : Int) := by omega
    have q5 : (p : Int) < (M : Int) := by omega
    have q7 := beq_yes x
    clear hxx
    go_wp2_with fail
    go_quiet (fail)
    go_wp2
    go_roundw
    case rel => first | exact ⟨p + 1, _, by omega, by go_num, rfl⟩ | ((repeat apply Exists.intro); refine ⟨?_, rfl⟩; exact ⟨p + 1, _, by omega, by go_num, rfl⟩)
    case measure => simp [intOf]; omega
  have hp2 : (M : Int) ≤ (p : Int) := by omega
  go_wp2
  go_ret
  exact ⟨rfl, KF.out.trans (kept_drewN _ _)⟩
end Go.Proofs.YtelbnidpchemiaaGreatDoor
