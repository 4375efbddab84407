/- The walk of FnTermToIndicesParens. -/
import Derived.Test.YtdlmdmpkjhnbmaaGreatDoorTsp
import Derived.Deep.RegionHeld3
namespace Go.Proofs.YtdlmdmpkjhnbmaaGreatDoor
open Go.RowKit Go.Gq
set_option maxRecDepth 100000
abbrev queryC (t : Nat) : Array Value := #[np, ns, ns, bq t, np, np, ns, .int .i64 0]
theorem four_new (w : World) (c1 c2 c3 c4 : Array Value) (t1 t2 t3 t4 : TypeId) (W : World) (hW : W = (((w.alloc (.cells c1 t1)).alloc (.cells c2 t2)).alloc (.cells c3 t3)).alloc (.cells c4 t4)) :
    (∀ k v, c1[k]? = some v → W.cell? ⟨w.heap.size, k, none⟩ = some v) ∧ (∀ k v, c2[k]? = some v → W.cell? ⟨w.heap.size + 1, k, none⟩ = some v) ∧ (∀ k v, c3[k]? = some v → W.cell? ⟨w.heap.size + 1 + 1, k, none⟩ = some v) ∧
    (∀ k v, c4[k]? = some v → W.cell? ⟨w.heap.size + 1 + 1 + 1, k, none⟩ = some v) ∧ Kept w W := by
  have hs : (((w.alloc (.cells c1 t1)).alloc (.cells c2 t2)).alloc (.cells c3 t3)).heap.size = w.heap.size + 1 + 1 + 1 := by simp
  obtain ⟨h1, h2, h3, h4⟩ := three_new w c1 c2 c3 t1 t2 t3 _ rfl
  subst hW
  refine ⟨fun k v h => cell_old _ _ (h1 k v h), fun k v h => cell_old _ _ (h2 k v h), fun k v h => cell_old _ _ (h3 k v h), fun k v h => ?_, h4.trans (kept_alloc _ _)⟩
  rw [← hs]; exact cell_new _ _ _ k _ h
/-- A term that is neither an index nor in parentheses is no path. -/
theorem other_ix (B t : Nat) (ty : Int) (w : World) (ht : t < B) (c0 : w.cell? ⟨t, 0, none⟩ = some (.int .i64 ty)) (h1 : ty ≠ 6) (h2 : ty ≠ 20) : TermIx B w t [none] := by
  intro w1 v xs hb _ _ _
  exact (term_none t ty v w1 (below_cell hb ht c0) h1 h2).mono fun e w' ⟨h3, h4⟩ => ⟨h4 ▸ Below.refl _ _, .inl ⟨rfl, h3⟩⟩
set_option maxHeartbeats 1000000 in
theorem zzBytes_FnTermToIndicesParens_any (ty : Int) (head : ByteArray) (bn nst : Bool) (a1 : Option Addr) (n1 c1 : Nat) (s1 : Nat → ByteArray) (a2 : Option Addr) (n2 c2 : Nat) (s2 : Nat → ByteArray) (w : World) (h1 : Rd w a1 n1 (fun i => .string (s1 i))) (h2 : Rd w a2 n2 (fun i => .string (s2 i))) (m0 : head.size ≤ 9223372036854775807) (m1 : n1 ≤ 9223372036854775807) (m2 : n2 ≤ 9223372036854775807) (k1 : ∀ i, i < n1 → (s1 i).size ≤ 9223372036854775807) (k2 : ∀ i, i < n2 → (s2 i).size ≤ 9223372036854775807) :
    Calls Tryz.prog 32 #[.int .i64 ty, .string head, .bool bn, .bool nst, .slice a1 n1 c1, .slice a2 n2 c2] w (BytesAns head n1 n2 w) := by
  have H1 := Lib.hid h1
  have H2 := Lib.hid h2
  have H1S := Lib.hid k1
  have H2S := Lib.hid k2
  clear h1 h2 k1 k2
  by_cases g0 : head.size ≤ 1048576
  rotate_left
  · go_enter Tryz.func32, Tryz.ntmps32
    go_wp2
    go_ret
    exact ⟨false, rfl, (fun h => by cases h), rfl⟩
  by_cases g1 : n1 ≤ 1048576
  rotate_left
  · go_enter Tryz.func32, Tryz.ntmps32
    go_wp2
    go_ret
    exact ⟨false, rfl, (fun h => by cases h), rfl⟩
  by_cases g2 : (head.size : Int) + (n1 : Int) ≤ 1048576
  rotate_left
  · go_enter Tryz.func32, Tryz.ntmps32
    go_wp2
    go_ret
    exact ⟨false, rfl, (fun h => by cases h), rfl⟩
  go_enter Tryz.func32, Tryz.ntmps32
  go_wp2
  go_loop [13, 14] (fun t i => ∃ (k : Nat) (z : Int), k ≤ n1 ∧ i = .int .i64 k ∧ t = .int .i64 z ∧ 0 ≤ z ∧ z ≤ 1048576) (fun _ i => n1 - (intOf i).toNat)
  case atStart => exact ⟨0, _, Nat.zero_le _, rfl, rfl, by omega, by omega⟩
  case round =>
    obtain ⟨k, z, hk, rfl, rfl, hz0, hz1⟩ := hrel
    by_cases hlt : k < n1
    · obtain ⟨b, off, e1, hc⟩ := H1.out.at hlt
      subst e1
      obtain ⟨x, hx⟩ : ∃ x, x = s1 k := ⟨_, rfl⟩
      have hsz : x.size ≤ 9223372036854775807 := by rw [hx]; exact H1S.out k hlt
      rw [← hx] at hc
      clear hx
      by_cases q1 : x.size ≤ 1048576
      rotate_left
      · go_wp2
        go_ret
        exact ⟨false, rfl, (fun h => by cases h), rfl⟩
      by_cases q2 : z + x.size ≤ 1048576
      rotate_left
      · go_wp2
        go_ret
        exact ⟨false, rfl, (fun h => by cases h), rfl⟩
      go_wp2
      go_round
      case rel => exact ⟨k + 1, z + x.size, by omega, by go_num, rfl, by omega, by omega⟩
      case measure => simp [intOf]; omega
    have hk2 : (n1 : Int) ≤ (k : Int) := by omega
    by_cases q3 : n2 ≤ 1048576
    rotate_left
    · go_wp2
      go_ret
      exact ⟨false, rfl, (fun h => by cases h), rfl⟩
    by_cases q4 : z + n2 ≤ 1048576
    rotate_left
    · go_wp2
      go_ret
      exact ⟨false, rfl, (fun h => by cases h), rfl⟩
    go_wp2
    clear hlt hk hk2
    go_loop [13, 15] (fun t i => ∃ (k : Nat) (z : Int), k ≤ n2 ∧ i = .int .i64 k ∧ t = .int .i64 z ∧ 0 ≤ z ∧ z ≤ 1048576) (fun _ i => n2 - (intOf i).toNat)
    case atStart => exact ⟨0, _, Nat.zero_le _, rfl, rfl, by omega, by omega⟩
    case round =>
      obtain ⟨k, z2, hk, rfl, rfl, hz0, hz1⟩ := hrel
      by_cases hlt : k < n2
      · obtain ⟨b, off, e1, hc⟩ := H2.out.at hlt
        subst e1
        obtain ⟨x, hx⟩ : ∃ x, x = s2 k := ⟨_, rfl⟩
        have hsz : x.size ≤ 9223372036854775807 := by rw [hx]; exact H2S.out k hlt
        rw [← hx] at hc
        clear hx
        by_cases q1 : x.size ≤ 1048576
        rotate_left
        · go_wp2
          go_ret
          exact ⟨false, rfl, (fun h => by cases h), rfl⟩
        by_cases q2 : z2 + x.size ≤ 1048576
        rotate_left
        · go_wp2
          go_ret
          exact ⟨false, rfl, (fun h => by cases h), rfl⟩
        go_wp2
        go_round
        case rel => exact ⟨k + 1, z2 + x.size, by omega, by go_num, rfl, by omega, by omega⟩
        case measure => simp [intOf]; omega
      have hk2 : (n2 : Int) ≤ (k : Int) := by omega
      go_wp2
      go_ret
      exact ⟨true, rfl, (fun _ => ⟨g0, g1, q3⟩), rfl⟩
set_option maxHeartbeats 8000000 in
theorem FnTermToIndicesParens_walk (ty : Int) (head : ByteArray) (bn nst : Bool) (a1 : Option Addr) (n1 c1 : Nat) (s1 : Nat → ByteArray) (a2 : Option Addr) (n2 c2 : Nat) (s2 : Nat → ByteArray) (w : World) (h1 : Rd w a1 n1 (fun i => .string (s1 i))) (h2 : Rd w a2 n2 (fun i => .string (s2 i))) (m0 : head.size ≤ 9223372036854775807) (m1 : n1 ≤ 9223372036854775807) (m2 : n2 ≤ 9223372036854775807) (k1 : ∀ i, i < n1 → (s1 i).size ≤ 9223372036854775807) (k2 : ∀ i, i < n2 → (s2 i).size ≤ 9223372036854775807) :
    Calls Tryz.prog 10 #[.int .i64 ty, .string head, .bool bn, .bool nst, .slice a1 n1 c1, .slice a2 n2 c2] w (TrueKept w) := by
  have H1 := Lib.hid h1
  have H2 := Lib.hid h2
  have HZ := (zzBytes_FnTermToIndicesParens_any ty head bn nst a1 n1 c1 s1 a2 n2 c2 s2 w h1 h2 m0 m1 m2 k1 k2)
  clear h1 h2 k1 k2
  go_enter Tryz.func10, Tryz.ntmps10
  go_wp2_with fail
  refine HZ.mono ?_
  rintro e w1 ⟨b, rfl, hb, rfl⟩
  clear HZ
  cases b with
  | false =>
    go_wp2
    go_ret
    exact ⟨rfl, Below.refl _ _⟩
  | true =>
  obtain ⟨l0, l1, l2⟩ := hb rfl
  clear hb
  go_wp2_with fail
  refine (zzStringsBytes_any a1 n1 c1 s1 w H1.out m1).mono ?_
  rintro e w1 ⟨t1, rfl, rfl⟩
  go_wp2_with fail
  refine (zzStringsBytes_any a2 n2 c2 s2 w H2.out m2).mono ?_
  rintro e w1 ⟨t2, rfl, rfl⟩
  by_cases g2 : (1048576 : Int) < wrap64 (wrap64 ((head.size : Int) + t1) + t2)
  · go_wp2
    go_ret
    exact ⟨rfl, Below.refl _ _⟩
  go_wp2_with fail
  clear g2
  refine (zzClone_rd a1 n1 c1 s1 w l1 H1.out).mono ?_
  rintro e w1 ⟨v, vc, rfl, hr, hk1⟩
  have RV1 := Lib.hid hr
  have K1 := Lib.hid hk1
  clear hr hk1
  go_wp2_with fail
  refine (zzClone_rd a2 n2 c2 s2 w1 l2 (H2.out.kept K1.out)).mono ?_
  rintro e w2 ⟨u, uc, rfl, hr, hk2⟩
  have RU := Lib.hid hr
  have RV := Lib.hid (RV1.out.kept hk2)
  have K2 := Lib.hid (K1.out.trans hk2)
  clear hr hk2 RV1
  cases bn with
  | false =>
    go_wp2_with fail
    obtain ⟨W1, hW⟩ : ∃ W : World, W = (w2.alloc (.cells #[.string head, ns] 67)).alloc (.cells #[.string ⟨#[]⟩, bq w2.heap.size, np, np, .bool false] 71) := ⟨_, rfl⟩
    obtain ⟨e1, e2, hk⟩ := two_new _ _ _ _ _ _ hW
    have hz : W1.heap.size = w2.heap.size + 1 + 1 := by rw [hW]; simp
    have HI : Hid (IdxIs W1.heap.size W1 (w2.heap.size + 1) (some head)) := ⟨by omega, .inr ⟨e2 0 _ rfl, w2.heap.size, head, none, 0, 0, by omega, e2 1 _ rfl, e1 0 _ rfl, e1 1 _ rfl, rfl⟩⟩
    rw [← hW]
    have HW := Lib.hid hk
    obtain ⟨i, hi⟩ : ∃ i, i = w2.heap.size + 1 := ⟨_, rfl⟩
    rw [← hi] at HI ⊢
    clear e1 e2 hk hz hW hi
    refine (zzSuffixes_any v n1 vc s1 W1 (RV.out.kept HW.out) l1).mono ?_
    rintro e w3 ⟨g, cap, sb, rfl, hg, hrd, hsf, hk3⟩
    have HS := Lib.hid (And.intro hrd hsf)
    have HI3 := Lib.hid (HI.out.up hk3 hk3.size)
    have K3 := Lib.hid (K2.out.trans (HW.out.trans hk3))
    have RV3 := Lib.hid ((RV.out.kept HW.out).kept hk3)
    have RU3 := Lib.hid ((RU.out.kept HW.out).kept hk3)
    have HG := Lib.hid hg
    clear hrd hsf hk3 HI HW hg RV RU K2 K1
    cases nst with
    | false =>
      go_wp2_with fail
      obtain ⟨W4, hW⟩ : ∃ W : World, W = (w3.alloc (.cells (termC 6 (bq i) ⟨#[]⟩ np np np (.slice (some ⟨g, 0, none⟩) n1 cap)) 58)).alloc (.cells (queryC w3.heap.size) 83) := ⟨_, rfl⟩
      obtain ⟨n1', n2', hk4⟩ := two_new _ _ _ _ _ _ hW
      have hz4 : W4.heap.size = w3.heap.size + 1 + 1 := by rw [hW]; simp
      rw [← hW]
      have a0 := n1' 0 _ rfl
      have a1' := n1' 1 _ rfl
      have a16 := n1' 16 _ rfl
      have e3 := n2' 3 _ rfl
      have HF4 := Lib.hid (And.intro a0 (And.intro a1' (And.intro a16 e3)))
      have HN4 := Lib.hid (True.intro)
      have HZ4 := Lib.hid hz4
      have HK4 := Lib.hid hk4
      clear hW n1' n2' a0 a1' a16 e3 hk4 hz4
      refine (zzSuffixes_any u n2 uc s2 W4 (RU3.out.kept HK4.out) l2).mono ?_
      rintro e w5 ⟨g2, cap2, sb2, rfl, hg2, hrd2, hsf2, hk5⟩
      have HS2 := Lib.hid (And.intro hrd2 hsf2)
      have HK5 := Lib.hid hk5
      have HG2 := Lib.hid hg2
      clear hrd2 hsf2 hk5 hg2
      go_wp2_with fail
      obtain ⟨W6, hW⟩ : ∃ W : World, W = w5.alloc (.cells (termC 20 np ⟨#[]⟩ np np (bq (w3.heap.size + 1)) (.slice (some ⟨g2, 0, none⟩) n2 cap2)) 58) := ⟨_, rfl⟩
      have hk6 : Kept w5 W6 := by rw [hW]; exact kept_alloc _ _
      have hz6 : W6.heap.size = w5.heap.size + 1 := by rw [hW]; simp
      have hc6 : ∀ k v, (termC 20 np ⟨#[]⟩ np np (bq (w3.heap.size + 1)) (.slice (some ⟨g2, 0, none⟩) n2 cap2))[k]? = some v → W6.cell? ⟨w5.heap.size, k, none⟩ = some v := fun k v h => by rw [hW]; exact cell_new _ _ _ k _ h
      rw [← hW]
      have k46 : Kept W4 W6 := HK5.out.trans hk6
      have k36 : Kept w3 W6 := HK4.out.trans k46
      have HP : Hid (∀ W : World, Kept W6 W → TermIx W.heap.size W w3.heap.size ([some head] ++ kzs n1 s1)) := by
        intro W hkW
        have hsW := hkW.size
        have hs5 := HK5.out.size
        have hz4 := HZ4.out
        have hg := HG.out
        obtain ⟨y0, y1, y16, _⟩ := HF4.out
        have tix : TermIx W.heap.size W w3.heap.size ([some head] ++ kzs n1 s1) := term_index W.heap.size w3.heap.size i (some ⟨g, 0, none⟩) n1 cap (fun j => kz (s1 j)) sb (some head) W (by omega) (kept_cell hkW (kept_cell k46 y0)) (kept_cell hkW (kept_cell k46 y1)) (HI3.out.up (k36.trans hkW) (by have := k36.size; omega)) (kept_cell hkW (kept_cell k46 y16)) (HS.out.1.kept (k36.trans hkW)) (fun x e => by injection e with e; subst e; simp only; omega) (fun j hj => (HS.out.2 j hj).up (k36.trans hkW) (by have := k36.size; omega))
        exact tix
      have HWr : Hid (∀ W : World, Kept W6 W → TermIx W.heap.size W w5.heap.size (([some head] ++ kzs n1 s1) ++ kzs n2 s2)) := by
        intro W hkW
        have hsW := hkW.size
        have hs5 := HK5.out.size
        have hz4 := HZ4.out
        have hg := HG2.out
        obtain ⟨_, _, _, y3⟩ := HF4.out
        exact term_query W.heap.size w5.heap.size (w3.heap.size + 1) (some ⟨g2, 0, none⟩) n2 cap2 (fun j => kz (s2 j)) sb2 _ W (by omega) (kept_cell hkW (hc6 0 _ rfl)) (kept_cell hkW (hc6 15 _ rfl)) (query_term W.heap.size (w3.heap.size + 1) w3.heap.size _ W (by omega) (kept_cell hkW (kept_cell k46 y3)) (HP.out W hkW)) (kept_cell hkW (hc6 16 _ rfl)) (HS2.out.1.kept (hk6.trans hkW)) (fun x e => by injection e with e; subst e; simp only; omega) (fun j hj => (HS2.out.2 j hj).up (hk6.trans hkW) (by omega))
      have HC : Hid (W6.cell? ⟨w3.heap.size, 1, none⟩ = some (bq i) ∧ W6.cell? ⟨w5.heap.size, 15, none⟩ = some (bq (w3.heap.size + 1))) := ⟨kept_cell k46 HF4.out.2.1, hc6 15 _ rfl⟩
      have KW := Lib.hid (K3.out.trans k36)
      have RV6 := Lib.hid (RV3.out.kept k36)
      have RU6 := Lib.hid (RU3.out.kept k36)
      obtain ⟨q2, hq2⟩ : ∃ q2, q2 = (w3.heap.size + 1) := ⟨_, rfl⟩
      rw [← hq2] at HC
      clear hW hk6 hz6 hc6 k46 k36 HS2 HK5 HG2 HF4 HN4 HZ4 HK4 hq2
      have hkl1 : ([some head] ++ kzs n1 s1).length ≤ 3145728 := by simp [kzs]; omega
      have hkl2 : (([some head] ++ kzs n1 s1) ++ kzs n2 s2).length ≤ 3145728 := by simp [kzs]; omega
      refine (ZZtermToIndices_any w3.heap.size _ none 0 0 (fun _ => ⟨#[]⟩) W6 (HP.out W6 (Below.refl _ _)) (.inl rfl) (by omega) (by omega)).mono ?_
      rintro e w7 ⟨hk7, r1⟩
      have K7 := Lib.hid hk7
      clear hk7
      rcases r1 with ⟨hn1, rfl⟩ | ⟨ss1, x1, cc1, hs1, rfl, hr1⟩
      · go_wp2_with fail
        refine (ZZtermToIndices_any w5.heap.size _ none 0 0 (fun _ => ⟨#[]⟩) w7 (HWr.out w7 K7.out) (.inl rfl) (by omega) (by omega)).mono ?_
        rintro e w8 ⟨hk8, r2⟩
        have K6 := Lib.hid (K7.out.trans hk8)
        have KF := Lib.hid (KW.out.trans (K7.out.trans hk8))
        have RVF := Lib.hid (RV6.out.kept (K7.out.trans hk8))
        have RUF := Lib.hid (RU6.out.kept (K7.out.trans hk8))
        clear hk8 RV6 RU6 HP HWr
        rcases r2 with ⟨hn2, rfl⟩ | ⟨ss2, x2, cc2, hs2, _⟩
        · have HN1 := Lib.hid hn1
          clear hn1 hn2
          go_wp2_with fail
          refine (zzRefused_any v n1 vc s1 w8 RVF.out (by omega)).mono ?_
          rintro e w9 ⟨rfl, h9⟩
          rcases h9 with ⟨rfl, h9⟩ | ⟨rfl, h9⟩
          · clear h9
            by_cases t6 : ty = 6
            · subst t6
              go_wp2
              go_ret
              exact ⟨rfl, KF.out⟩
            by_cases t20 : ty = 20
            · subst t20
              go_wp2
              go_ret
              exact ⟨rfl, KF.out⟩
            have qa : (ty != 6) = true := by simpa using t6
            have qb : (ty != 20) = true := by simpa using t20
            have d1 := kept_cell K6.out HC.out.1
            have d15 := kept_cell K6.out HC.out.2
            have kd := kept_drew w8
            go_wp2_with fail
            go_region_held3 (fun W' => Kept w8 W' ∧ W'.cell? ⟨w3.heap.size, 1, none⟩ = some (bq i) ∧ W'.cell? ⟨w5.heap.size, 15, none⟩ = some (bq q2))
              (first | exact ⟨kd, d1, d15⟩ | exact ⟨kd.trans hk10, kept_cell hk10 d1, kept_cell hk10 d15⟩ | exact ⟨(kd.trans hk10).trans (kept_alloc _ _), kept_cell (hk10.trans (kept_alloc _ _)) d1, kept_cell (hk10.trans (kept_alloc _ _)) d15⟩)
              (first
                | (go_at_call 28; refine (zzSuffixes_any u n2 uc s2 _ (RUF.out.kept kd) l2).mono ?_; rintro e w10 ⟨g3, cap3, sb3, rfl, _, _, _, hk10⟩))
            clear d1 d15
            have K10 := Lib.hid (KF.out.trans (kd.trans hk10))
            clear kd hk10
            go_wp2_with fail
            obtain ⟨W11, hW⟩ : ∃ W : World, W = w10.alloc (.cells (termC ty (bq i) ⟨#[]⟩ np np (bq q2) (.slice (some ⟨g3, 0, none⟩) n2 cap3)) 58) := ⟨_, rfl⟩
            have hk11 : Kept w10 W11 := by rw [hW]; exact kept_alloc _ _
            have hz11 : W11.heap.size = w10.heap.size + 1 := by rw [hW]; simp
            have hc11 : W11.cell? ⟨w10.heap.size, 0, none⟩ = some (.int .i64 ty) := by rw [hW]; exact cell_new _ _ _ 0 _ rfl
            rw [← hW]
            refine (ZZtermToIndices_any w10.heap.size [none] none 0 0 (fun _ => ⟨#[]⟩) W11 (other_ix _ _ ty W11 (by omega) hc11 t6 t20) (.inl rfl) (by omega) (by simp)).mono ?_
            rintro e w12 ⟨hk12, hr⟩
            have K12 := Lib.hid (K10.out.trans (hk11.trans hk12))
            clear hk12 hk11 hz11 hc11 hW
            rcases hr with ⟨_, rfl⟩ | ⟨ss, a, c, hs, _⟩
            · go_wp2
              go_ret
              exact ⟨rfl, K12.out⟩
            · cases hs
          · have := allSome_app (a := [some head]) (x := [head]) rfl h9
            rw [HN1.out] at this
            cases this
        · rw [allSome_none_app _ hn1] at hs2
          cases hs2
      go_wp2_with fail
      refine (ZZtermToIndices_any w5.heap.size _ none 0 0 (fun _ => ⟨#[]⟩) w7 (HWr.out w7 K7.out) (.inl rfl) (by omega) (by omega)).mono ?_
      rintro e w8 ⟨hk8, r2⟩
      have K6 := Lib.hid (K7.out.trans hk8)
      have KF := Lib.hid (KW.out.trans (K7.out.trans hk8))
      have RVF := Lib.hid (RV6.out.kept (K7.out.trans hk8))
      have RUF := Lib.hid (RU6.out.kept (K7.out.trans hk8))
      have HR1 := Lib.hid (hr1.kept hk8)
      have HS1 := Lib.hid hs1
      clear hk8 RV6 RU6 HP HWr hr1
      rcases r2 with ⟨hn2, rfl⟩ | ⟨ss2, x2, cc2, hs2, rfl, hr2⟩
      · have HN2 := Lib.hid hn2
        clear hn2
        go_wp2_with fail
        refine (zzRefused_any v n1 vc s1 w8 RVF.out (by omega)).mono ?_
        rintro e w9 ⟨rfl, h9⟩
        rcases h9 with ⟨rfl, h9⟩ | ⟨rfl, h9⟩
        · have := allSome_app_none [some head] h9
          rw [HS1.out] at this
          cases this
        have H9 := Lib.hid h9
        clear h9
        go_wp2_with fail
        refine (zzRefused_any u n2 uc s2 w8 RUF.out (by omega)).mono ?_
        rintro e w9 ⟨rfl, h9⟩
        rcases h9 with ⟨rfl, h9⟩ | ⟨rfl, h9⟩
        · clear h9
          by_cases t6 : ty = 6
          · subst t6
            go_wp2
            go_ret
            exact ⟨rfl, KF.out⟩
          by_cases t20 : ty = 20
          · subst t20
            go_wp2
            go_ret
            exact ⟨rfl, KF.out⟩
          have qa : (ty != 6) = true := by simpa using t6
          have qb : (ty != 20) = true := by simpa using t20
          have d1 := kept_cell K6.out HC.out.1
          have d15 := kept_cell K6.out HC.out.2
          have kd := kept_drew w8
          go_wp2_with fail
          go_region_held3 (fun W' => Kept w8 W' ∧ W'.cell? ⟨w3.heap.size, 1, none⟩ = some (bq i) ∧ W'.cell? ⟨w5.heap.size, 15, none⟩ = some (bq q2))
            (first | exact ⟨kd, d1, d15⟩ | exact ⟨kd.trans hk10, kept_cell hk10 d1, kept_cell hk10 d15⟩ | exact ⟨(kd.trans hk10).trans (kept_alloc _ _), kept_cell (hk10.trans (kept_alloc _ _)) d1, kept_cell (hk10.trans (kept_alloc _ _)) d15⟩)
            (first
              | (go_at_call 28; refine (zzSuffixes_any u n2 uc s2 _ (RUF.out.kept kd) l2).mono ?_; rintro e w10 ⟨g3, cap3, sb3, rfl, _, _, _, hk10⟩))
          clear d1 d15
          have K10 := Lib.hid (KF.out.trans (kd.trans hk10))
          clear kd hk10
          go_wp2_with fail
          obtain ⟨W11, hW⟩ : ∃ W : World, W = w10.alloc (.cells (termC ty (bq i) ⟨#[]⟩ np np (bq q2) (.slice (some ⟨g3, 0, none⟩) n2 cap3)) 58) := ⟨_, rfl⟩
          have hk11 : Kept w10 W11 := by rw [hW]; exact kept_alloc _ _
          have hz11 : W11.heap.size = w10.heap.size + 1 := by rw [hW]; simp
          have hc11 : W11.cell? ⟨w10.heap.size, 0, none⟩ = some (.int .i64 ty) := by rw [hW]; exact cell_new _ _ _ 0 _ rfl
          rw [← hW]
          refine (ZZtermToIndices_any w10.heap.size [none] none 0 0 (fun _ => ⟨#[]⟩) W11 (other_ix _ _ ty W11 (by omega) hc11 t6 t20) (.inl rfl) (by omega) (by simp)).mono ?_
          rintro e w12 ⟨hk12, hr⟩
          have K12 := Lib.hid (K10.out.trans (hk11.trans hk12))
          clear hk12 hk11 hz11 hc11 hW
          rcases hr with ⟨_, rfl⟩ | ⟨ss, a, c, hs, _⟩
          · go_wp2
            go_ret
            exact ⟨rfl, K12.out⟩
          · cases hs
        · have := allSome_app HS1.out h9
          rw [HN2.out] at this
          cases this
      have HS2 := Lib.hid hs2
      have HR2 := Lib.hid hr2
      clear hs2 hr2
      go_wp2_with fail
      refine (zzRefused_any v n1 vc s1 w8 RVF.out (by omega)).mono ?_
      rintro e w9 ⟨rfl, h9⟩
      rcases h9 with ⟨rfl, h9⟩ | ⟨rfl, h9⟩
      · have := allSome_app_none [some head] h9
        rw [HS1.out] at this
        cases this
      have H9 := Lib.hid h9
      clear h9
      go_wp2_with fail
      refine (zzRefused_any u n2 uc s2 w8 RUF.out (by omega)).mono ?_
      rintro e w9 ⟨rfl, h9⟩
      rcases h9 with ⟨rfl, h9⟩ | ⟨rfl, h9⟩
      · have := allSome_app_none ([some head] ++ kzs n1 s1) h9
        rw [HS2.out] at this
        cases this
      have e1 : ss1 = head :: (List.range n1).map s1 := by
        have := allSome_app (a := [some head]) (x := [head]) rfl H9.out
        rw [HS1.out] at this
        injection this with this
      have e2 : ss2 = ss1 ++ (List.range n2).map s2 := by
        have := allSome_app HS1.out h9
        rw [HS2.out] at this
        injection this with this
      obtain ⟨M1, hM1⟩ : ∃ M1, M1 = ss1.length := ⟨_, rfl⟩
      obtain ⟨M2, hM2⟩ : ∃ M2, M2 = ss2.length := ⟨_, rfl⟩
      have hM1' : M1 = 1 + n1 := by rw [hM1, e1]; simp; omega
      have hM2' : M2 = M1 + n2 := by rw [hM1, hM2, e2]; simp
      rw [Nat.zero_add, ← hM1] at HR1
      rw [Nat.zero_add, ← hM2] at HR2
      rw [← hM1, ← hM2]
      have f0 : ∀ k, ((List.range 0).map (fun _ : Nat => (⟨#[]⟩ : ByteArray)) ++ ss1).getD k ⟨#[]⟩ = ss1.getD k ⟨#[]⟩ := fun k => rfl
      have f1 : ss1.getD 0 ⟨#[]⟩ = head := by rw [e1]; rfl
      have f2 : ∀ k, k < M1 → ss2.getD k ⟨#[]⟩ = ss1.getD k ⟨#[]⟩ := fun k hk => by
        rw [e2, List.getD_eq_getElem?_getD, List.getElem?_append_left (by omega), ← List.getD_eq_getElem?_getD]
      have f3 : ∀ k, k < n2 → ss2.getD (M1 + k) ⟨#[]⟩ = s2 k := fun k hk => by
        rw [e2, List.getD_eq_getElem?_getD, List.getElem?_append_right (by omega), show M1 + k - ss1.length = k by omega]; simp [hk]
      have HD1 : Hid (Rd w8 (some x1) M1 (fun k => .string (ss1.getD k ⟨#[]⟩))) := HR1.out
      have HD2 : Hid (Rd w8 (some x2) M2 (fun k => .string (ss2.getD k ⟨#[]⟩))) := HR2.out
      have HE := Lib.hid (And.intro f1 (And.intro f2 f3))
      have HM := Lib.hid (And.intro hM1' hM2')
      obtain ⟨xb, xo, ex, hx⟩ := HD1.out.at (k := 0) (by omega)
      rw [Nat.add_zero] at hx
      rw [f1] at hx
      injection ex with ex
      subst ex
      have q1 := beq_yes head
      have p1 : ((M1 : Int) != 1 + (n1 : Int)) = false := by simp; omega
      have p2 : ((M2 : Int) != (M1 : Int) + (n2 : Int)) = false := by simp; omega
      have p3 : (0 : Int) < (M1 : Int) := by omega
      have p4 : M1 ≤ 1048577 := by omega
      clear e1 e2 f0 f1 f2 f3 hM1 hM2 hM1' hM2' H9 h9 HS1 HS2 HR1 HR2
      go_wp2_with fail
      clear hx q1
      go_loopw [23] (fun z wr => ∃ k r : Nat, k ≤ M1 ∧ z = .int .i64 k ∧ wr = w8.drewN r) (fun z _ => M1 - (intOf z).toNat)
      case atStart => exact ⟨0, 0, Nat.zero_le _, rfl, rfl⟩
      case round =>
      obtain ⟨k, r, hk, rfl, rfl⟩ := hrel
      by_cases hlt : k < M1
      · obtain ⟨xb2, xo2, ex, hx⟩ := HD1.out.at hlt
        injection ex with ex
        injection ex with ex1 ex2
        subst ex1 ex2
        obtain ⟨yb, yo, ey, hy⟩ := HD2.out.at (k := k) (by have := HM.out.2; omega)
        injection ey with ey
        subst ey
        rw [HE.out.2.1 k hlt] at hy
        obtain ⟨x, hxx⟩ : ∃ x, x = ss1.getD k ⟨#[]⟩ := ⟨_, rfl⟩
        rw [← hxx] at hx hy
        have q4 : (0 : Int) ≤ (k : Int) := by omega
        have q5 : (k : Int) < (M1 : Int) := by omega
        have q6 : (k : Int) < (M2 : Int) := by have := HM.out.2; omega
        have q7 := beq_yes x
        clear hxx
        go_wp2_with fail
        go_quiet (fail)
        go_wp2
        go_roundw
        case rel => first | exact ⟨k + 1, _, by omega, by go_num, rfl⟩ | ((repeat apply Exists.intro); refine ⟨?_, rfl⟩; exact ⟨k + 1, _, by omega, by go_num, rfl⟩)
        case measure => simp [intOf]; omega
      obtain rfl : M1 = k := by omega
      have hk2 : (M1 : Int) ≤ (M1 : Int) := by omega
      have kd := kept_drewN w8 r
      have HD2Y := Lib.hid (HD2.out.kept kd)
      have RUY := Lib.hid (RUF.out.kept kd)
      have KFY := Lib.hid (KF.out.trans kd)
      have K6Y := Lib.hid (K6.out.trans kd)
      clear HD2 HD1 RUF RVF KF K6 kd hlt hk K7
      revert HD2Y RUY KFY K6Y
      generalize w8.drewN r = Y
      intro HD2Y RUY KFY K6Y
      go_wp2_with fail
      clear hk2
      go_loopw [24] (fun z wr => ∃ k r : Nat, k ≤ n2 ∧ z = .int .i64 k ∧ wr = Y.drewN r) (fun z _ => n2 - (intOf z).toNat)
      case atStart => exact ⟨0, 0, Nat.zero_le _, rfl, rfl⟩
      case round =>
      obtain ⟨k, r, hk, rfl, rfl⟩ := hrel
      by_cases hlt : k < n2
      · obtain ⟨PP, hP⟩ : ∃ PP, PP = M1 + k := ⟨_, rfl⟩
        obtain ⟨yb, yo, ey, hy⟩ := HD2Y.out.at (k := PP) (by have := HM.out.2; omega)
        injection ey with ey
        subst ey
        obtain ⟨zb, zo, rfl, hz⟩ := RUY.out.at hlt
        rw [hP, HE.out.2.2 k hlt, ← hP] at hy
        obtain ⟨x, hxx⟩ : ∃ x, x = s2 k := ⟨_, rfl⟩
        rw [← hxx] at hy hz
        have q4 : (0 : Int) ≤ (k : Int) := by omega
        have q5 : (k : Int) < (n2 : Int) := by omega
        have q6 : (PP : Int) < (M2 : Int) := by have := HM.out.2; omega
        have q8 : (0 : Int) ≤ (PP : Int) := by omega
        have q9 : (M1 : Int) + (k : Int) = (PP : Int) := by omega
        have q7 := beq_yes x
        clear hxx hP
        go_wp2_with fail
        go_quiet (fail)
        go_wp2
        go_roundw
        case rel => first | exact ⟨k + 1, _, by omega, by go_num, rfl⟩ | ((repeat apply Exists.intro); refine ⟨?_, rfl⟩; exact ⟨k + 1, _, by omega, by go_num, rfl⟩)
        case measure => simp [intOf]; omega
      obtain rfl : n2 = k := by omega
      have hk3 : (n2 : Int) ≤ (n2 : Int) := by omega
      have kd := kept_drewN Y r
      have RUF := Lib.hid (RUY.out.kept kd)
      have KF := Lib.hid (KFY.out.trans kd)
      have K6 := Lib.hid (K6Y.out.trans kd)
      clear RUY KFY K6Y kd hlt hk HD2Y
      revert RUF KF K6
      generalize Y.drewN r = Z
      intro RUF KF K6
      by_cases t6 : ty = 6
      · subst t6
        go_wp2
        go_ret
        exact ⟨rfl, KF.out⟩
      by_cases t20 : ty = 20
      · subst t20
        go_wp2
        go_ret
        exact ⟨rfl, KF.out⟩
      have qa : (ty != 6) = true := by simpa using t6
      have qb : (ty != 20) = true := by simpa using t20
      have d1 := kept_cell K6.out HC.out.1
      have d15 := kept_cell K6.out HC.out.2
      have kd := kept_drew Z
      go_wp2_with fail
      go_region_held3 (fun W' => Kept Z W' ∧ W'.cell? ⟨w3.heap.size, 1, none⟩ = some (bq i) ∧ W'.cell? ⟨w5.heap.size, 15, none⟩ = some (bq q2))
        (first | exact ⟨kd, d1, d15⟩ | exact ⟨kd.trans hk10, kept_cell hk10 d1, kept_cell hk10 d15⟩ | exact ⟨(kd.trans hk10).trans (kept_alloc _ _), kept_cell (hk10.trans (kept_alloc _ _)) d1, kept_cell (hk10.trans (kept_alloc _ _)) d15⟩)
        (first
          | (go_at_call 28; refine (zzSuffixes_any u n2 uc s2 _ (RUF.out.kept kd) l2).mono ?_; rintro e w10 ⟨g3, cap3, sb3, rfl, _, _, _, hk10⟩))
      clear d1 d15
      have K10 := Lib.hid (KF.out.trans (kd.trans hk10))
      clear kd hk10
      go_wp2_with fail
      obtain ⟨W11, hW⟩ : ∃ W : World, W = w10.alloc (.cells (termC ty (bq i) ⟨#[]⟩ np np (bq q2) (.slice (some ⟨g3, 0, none⟩) n2 cap3)) 58) := ⟨_, rfl⟩
      have hk11 : Kept w10 W11 := by rw [hW]; exact kept_alloc _ _
      have hz11 : W11.heap.size = w10.heap.size + 1 := by rw [hW]; simp
      have hc11 : W11.cell? ⟨w10.heap.size, 0, none⟩ = some (.int .i64 ty) := by rw [hW]; exact cell_new _ _ _ 0 _ rfl
      rw [← hW]
      refine (ZZtermToIndices_any w10.heap.size [none] none 0 0 (fun _ => ⟨#[]⟩) W11 (other_ix _ _ ty W11 (by omega) hc11 t6 t20) (.inl rfl) (by omega) (by simp)).mono ?_
      rintro e w12 ⟨hk12, hr⟩
      have K12 := Lib.hid (K10.out.trans (hk11.trans hk12))
      clear hk12 hk11 hz11 hc11 hW
      rcases hr with ⟨_, rfl⟩ | ⟨ss, a, c, hs, _⟩
      · go_wp2
        go_ret
        exact ⟨rfl, K12.out⟩
      · cases hs
    | true =>
      go_wp2_with fail
      obtain ⟨W4, hW⟩ : ∃ W : World, W = (((w3.alloc (.cells (termC 6 (bq i) ⟨#[]⟩ np np np (.slice (some ⟨g, 0, none⟩) n1 cap)) 58)).alloc (.cells (queryC w3.heap.size) 83)).alloc (.cells (termC 20 np ⟨#[]⟩ np np (bq (w3.heap.size + 1)) ns) 58)).alloc (.cells (queryC (w3.heap.size + 1 + 1)) 83) := ⟨_, rfl⟩
      obtain ⟨n1', n2a, n3a, n2', hk4⟩ := four_new _ _ _ _ _ _ _ _ _ _ hW
      have hz4 : W4.heap.size = w3.heap.size + 1 + 1 + 1 + 1 := by rw [hW]; simp
      rw [← hW]
      have a0 := n1' 0 _ rfl
      have a1' := n1' 1 _ rfl
      have a16 := n1' 16 _ rfl
      have e3 := n2' 3 _ rfl
      have b3 := n2a 3 _ rfl
      have b0 := n3a 0 _ rfl
      have b15 := n3a 15 _ rfl
      have b16 := n3a 16 _ rfl
      have HF4 := Lib.hid (And.intro a0 (And.intro a1' (And.intro a16 e3)))
      have HN4 := Lib.hid (And.intro b0 (And.intro b15 (And.intro b16 b3)))
      have HZ4 := Lib.hid hz4
      have HK4 := Lib.hid hk4
      clear hW n1' n2' a0 a1' a16 e3 hk4 hz4 n2a n3a b0 b15 b16 b3
      refine (zzSuffixes_any u n2 uc s2 W4 (RU3.out.kept HK4.out) l2).mono ?_
      rintro e w5 ⟨g2, cap2, sb2, rfl, hg2, hrd2, hsf2, hk5⟩
      have HS2 := Lib.hid (And.intro hrd2 hsf2)
      have HK5 := Lib.hid hk5
      have HG2 := Lib.hid hg2
      clear hrd2 hsf2 hk5 hg2
      go_wp2_with fail
      obtain ⟨W6, hW⟩ : ∃ W : World, W = w5.alloc (.cells (termC 20 np ⟨#[]⟩ np np (bq (w3.heap.size + 1 + 1 + 1)) (.slice (some ⟨g2, 0, none⟩) n2 cap2)) 58) := ⟨_, rfl⟩
      have hk6 : Kept w5 W6 := by rw [hW]; exact kept_alloc _ _
      have hz6 : W6.heap.size = w5.heap.size + 1 := by rw [hW]; simp
      have hc6 : ∀ k v, (termC 20 np ⟨#[]⟩ np np (bq (w3.heap.size + 1 + 1 + 1)) (.slice (some ⟨g2, 0, none⟩) n2 cap2))[k]? = some v → W6.cell? ⟨w5.heap.size, k, none⟩ = some v := fun k v h => by rw [hW]; exact cell_new _ _ _ k _ h
      rw [← hW]
      have k46 : Kept W4 W6 := HK5.out.trans hk6
      have k36 : Kept w3 W6 := HK4.out.trans k46
      have HP : Hid (∀ W : World, Kept W6 W → TermIx W.heap.size W (w3.heap.size + 1 + 1) ([some head] ++ kzs n1 s1)) := by
        intro W hkW
        have hsW := hkW.size
        have hs5 := HK5.out.size
        have hz4 := HZ4.out
        have hg := HG.out
        obtain ⟨y0, y1, y16, _⟩ := HF4.out
        have tix : TermIx W.heap.size W w3.heap.size ([some head] ++ kzs n1 s1) := term_index W.heap.size w3.heap.size i (some ⟨g, 0, none⟩) n1 cap (fun j => kz (s1 j)) sb (some head) W (by omega) (kept_cell hkW (kept_cell k46 y0)) (kept_cell hkW (kept_cell k46 y1)) (HI3.out.up (k36.trans hkW) (by have := k36.size; omega)) (kept_cell hkW (kept_cell k46 y16)) (HS.out.1.kept (k36.trans hkW)) (fun x e => by injection e with e; subst e; simp only; omega) (fun j hj => (HS.out.2 j hj).up (k36.trans hkW) (by have := k36.size; omega))
        obtain ⟨z0, z15, z16, z3⟩ := HN4.out
        have x0 := kept_cell k46 z0
        have x15 := kept_cell k46 z15
        have x16 := kept_cell k46 z16
        have x3 := kept_cell k46 z3
        have := term_query W.heap.size (w3.heap.size + 1 + 1) (w3.heap.size + 1) none 0 0 (fun _ => none) (fun _ => 0) _ W (by omega) (kept_cell hkW x0) (kept_cell hkW x15) (query_term W.heap.size (w3.heap.size + 1) w3.heap.size _ W (by omega) (kept_cell hkW x3) tix) (kept_cell hkW x16) (.inl rfl) (fun x e => by cases e) (fun j hj => absurd hj (Nat.not_lt_zero _))
        simpa using this
      have HWr : Hid (∀ W : World, Kept W6 W → TermIx W.heap.size W w5.heap.size (([some head] ++ kzs n1 s1) ++ kzs n2 s2)) := by
        intro W hkW
        have hsW := hkW.size
        have hs5 := HK5.out.size
        have hz4 := HZ4.out
        have hg := HG2.out
        obtain ⟨_, _, _, y3⟩ := HF4.out
        exact term_query W.heap.size w5.heap.size (w3.heap.size + 1 + 1 + 1) (some ⟨g2, 0, none⟩) n2 cap2 (fun j => kz (s2 j)) sb2 _ W (by omega) (kept_cell hkW (hc6 0 _ rfl)) (kept_cell hkW (hc6 15 _ rfl)) (query_term W.heap.size (w3.heap.size + 1 + 1 + 1) (w3.heap.size + 1 + 1) _ W (by omega) (kept_cell hkW (kept_cell k46 y3)) (HP.out W hkW)) (kept_cell hkW (hc6 16 _ rfl)) (HS2.out.1.kept (hk6.trans hkW)) (fun x e => by injection e with e; subst e; simp only; omega) (fun j hj => (HS2.out.2 j hj).up (hk6.trans hkW) (by omega))
      have HC : Hid (W6.cell? ⟨w3.heap.size, 1, none⟩ = some (bq i) ∧ W6.cell? ⟨w5.heap.size, 15, none⟩ = some (bq (w3.heap.size + 1 + 1 + 1))) := ⟨kept_cell k46 HF4.out.2.1, hc6 15 _ rfl⟩
      have KW := Lib.hid (K3.out.trans k36)
      have RV6 := Lib.hid (RV3.out.kept k36)
      have RU6 := Lib.hid (RU3.out.kept k36)
      obtain ⟨q2, hq2⟩ : ∃ q2, q2 = (w3.heap.size + 1 + 1 + 1) := ⟨_, rfl⟩
      rw [← hq2] at HC
      clear hW hk6 hz6 hc6 k46 k36 HS2 HK5 HG2 HF4 HN4 HZ4 HK4 hq2
      have hkl1 : ([some head] ++ kzs n1 s1).length ≤ 3145728 := by simp [kzs]; omega
      have hkl2 : (([some head] ++ kzs n1 s1) ++ kzs n2 s2).length ≤ 3145728 := by simp [kzs]; omega
      refine (ZZtermToIndices_any (w3.heap.size + 1 + 1) _ none 0 0 (fun _ => ⟨#[]⟩) W6 (HP.out W6 (Below.refl _ _)) (.inl rfl) (by omega) (by omega)).mono ?_
      rintro e w7 ⟨hk7, r1⟩
      have K7 := Lib.hid hk7
      clear hk7
      rcases r1 with ⟨hn1, rfl⟩ | ⟨ss1, x1, cc1, hs1, rfl, hr1⟩
      · go_wp2_with fail
        refine (ZZtermToIndices_any w5.heap.size _ none 0 0 (fun _ => ⟨#[]⟩) w7 (HWr.out w7 K7.out) (.inl rfl) (by omega) (by omega)).mono ?_
        rintro e w8 ⟨hk8, r2⟩
        have K6 := Lib.hid (K7.out.trans hk8)
        have KF := Lib.hid (KW.out.trans (K7.out.trans hk8))
        have RVF := Lib.hid (RV6.out.kept (K7.out.trans hk8))
        have RUF := Lib.hid (RU6.out.kept (K7.out.trans hk8))
        clear hk8 RV6 RU6 HP HWr
        rcases r2 with ⟨hn2, rfl⟩ | ⟨ss2, x2, cc2, hs2, _⟩
        · have HN1 := Lib.hid hn1
          clear hn1 hn2
          go_wp2_with fail
          refine (zzRefused_any v n1 vc s1 w8 RVF.out (by omega)).mono ?_
          rintro e w9 ⟨rfl, h9⟩
          rcases h9 with ⟨rfl, h9⟩ | ⟨rfl, h9⟩
          · clear h9
            by_cases t6 : ty = 6
            · subst t6
              go_wp2
              go_ret
              exact ⟨rfl, KF.out⟩
            by_cases t20 : ty = 20
            · subst t20
              go_wp2
              go_ret
              exact ⟨rfl, KF.out⟩
            have qa : (ty != 6) = true := by simpa using t6
            have qb : (ty != 20) = true := by simpa using t20
            have d1 := kept_cell K6.out HC.out.1
            have d15 := kept_cell K6.out HC.out.2
            have kd := kept_drew w8
            go_wp2_with fail
            go_region_held3 (fun W' => Kept w8 W' ∧ W'.cell? ⟨w3.heap.size, 1, none⟩ = some (bq i) ∧ W'.cell? ⟨w5.heap.size, 15, none⟩ = some (bq q2))
              (first | exact ⟨kd, d1, d15⟩ | exact ⟨kd.trans hk10, kept_cell hk10 d1, kept_cell hk10 d15⟩ | exact ⟨(kd.trans hk10).trans (kept_alloc _ _), kept_cell (hk10.trans (kept_alloc _ _)) d1, kept_cell (hk10.trans (kept_alloc _ _)) d15⟩)
              (first
                | (go_at_call 28; refine (zzSuffixes_any u n2 uc s2 _ (RUF.out.kept kd) l2).mono ?_; rintro e w10 ⟨g3, cap3, sb3, rfl, _, _, _, hk10⟩))
            clear d1 d15
            have K10 := Lib.hid (KF.out.trans (kd.trans hk10))
            clear kd hk10
            go_wp2_with fail
            obtain ⟨W11, hW⟩ : ∃ W : World, W = w10.alloc (.cells (termC ty (bq i) ⟨#[]⟩ np np (bq q2) (.slice (some ⟨g3, 0, none⟩) n2 cap3)) 58) := ⟨_, rfl⟩
            have hk11 : Kept w10 W11 := by rw [hW]; exact kept_alloc _ _
            have hz11 : W11.heap.size = w10.heap.size + 1 := by rw [hW]; simp
            have hc11 : W11.cell? ⟨w10.heap.size, 0, none⟩ = some (.int .i64 ty) := by rw [hW]; exact cell_new _ _ _ 0 _ rfl
            rw [← hW]
            refine (ZZtermToIndices_any w10.heap.size [none] none 0 0 (fun _ => ⟨#[]⟩) W11 (other_ix _ _ ty W11 (by omega) hc11 t6 t20) (.inl rfl) (by omega) (by simp)).mono ?_
            rintro e w12 ⟨hk12, hr⟩
            have K12 := Lib.hid (K10.out.trans (hk11.trans hk12))
            clear hk12 hk11 hz11 hc11 hW
            rcases hr with ⟨_, rfl⟩ | ⟨ss, a, c, hs, _⟩
            · go_wp2
              go_ret
              exact ⟨rfl, K12.out⟩
            · cases hs
          · have := allSome_app (a := [some head]) (x := [head]) rfl h9
            rw [HN1.out] at this
            cases this
        · rw [allSome_none_app _ hn1] at hs2
          cases hs2
      go_wp2_with fail
      refine (ZZtermToIndices_any w5.heap.size _ none 0 0 (fun _ => ⟨#[]⟩) w7 (HWr.out w7 K7.out) (.inl rfl) (by omega) (by omega)).mono ?_
      rintro e w8 ⟨hk8, r2⟩
      have K6 := Lib.hid (K7.out.trans hk8)
      have KF := Lib.hid (KW.out.trans (K7.out.trans hk8))
      have RVF := Lib.hid (RV6.out.kept (K7.out.trans hk8))
      have RUF := Lib.hid (RU6.out.kept (K7.out.trans hk8))
      have HR1 := Lib.hid (hr1.kept hk8)
      have HS1 := Lib.hid hs1
      clear hk8 RV6 RU6 HP HWr hr1
      rcases r2 with ⟨hn2, rfl⟩ | ⟨ss2, x2, cc2, hs2, rfl, hr2⟩
      · have HN2 := Lib.hid hn2
        clear hn2
        go_wp2_with fail
        refine (zzRefused_any v n1 vc s1 w8 RVF.out (by omega)).mono ?_
        rintro e w9 ⟨rfl, h9⟩
        rcases h9 with ⟨rfl, h9⟩ | ⟨rfl, h9⟩
        · have := allSome_app_none [some head] h9
          rw [HS1.out] at this
          cases this
        have H9 := Lib.hid h9
        clear h9
        go_wp2_with fail
        refine (zzRefused_any u n2 uc s2 w8 RUF.out (by omega)).mono ?_
        rintro e w9 ⟨rfl, h9⟩
        rcases h9 with ⟨rfl, h9⟩ | ⟨rfl, h9⟩
        · clear h9
          by_cases t6 : ty = 6
          · subst t6
            go_wp2
            go_ret
            exact ⟨rfl, KF.out⟩
          by_cases t20 : ty = 20
          · subst t20
            go_wp2
            go_ret
            exact ⟨rfl, KF.out⟩
          have qa : (ty != 6) = true := by simpa using t6
          have qb : (ty != 20) = true := by simpa using t20
          have d1 := kept_cell K6.out HC.out.1
          have d15 := kept_cell K6.out HC.out.2
          have kd := kept_drew w8
          go_wp2_with fail
          go_region_held3 (fun W' => Kept w8 W' ∧ W'.cell? ⟨w3.heap.size, 1, none⟩ = some (bq i) ∧ W'.cell? ⟨w5.heap.size, 15, none⟩ = some (bq q2))
            (first | exact ⟨kd, d1, d15⟩ | exact ⟨kd.trans hk10, kept_cell hk10 d1, kept_cell hk10 d15⟩ | exact ⟨(kd.trans hk10).trans (kept_alloc _ _), kept_cell (hk10.trans (kept_alloc _ _)) d1, kept_cell (hk10.trans (kept_alloc _ _)) d15⟩)
            (first
              | (go_at_call 28; refine (zzSuffixes_any u n2 uc s2 _ (RUF.out.kept kd) l2).mono ?_; rintro e w10 ⟨g3, cap3, sb3, rfl, _, _, _, hk10⟩))
          clear d1 d15
          have K10 := Lib.hid (KF.out.trans (kd.trans hk10))
          clear kd hk10
          go_wp2_with fail
          obtain ⟨W11, hW⟩ : ∃ W : World, W = w10.alloc (.cells (termC ty (bq i) ⟨#[]⟩ np np (bq q2) (.slice (some ⟨g3, 0, none⟩) n2 cap3)) 58) := ⟨_, rfl⟩
          have hk11 : Kept w10 W11 := by rw [hW]; exact kept_alloc _ _
          have hz11 : W11.heap.size = w10.heap.size + 1 := by rw [hW]; simp
          have hc11 : W11.cell? ⟨w10.heap.size, 0, none⟩ = some (.int .i64 ty) := by rw [hW]; exact cell_new _ _ _ 0 _ rfl
          rw [← hW]
          refine (ZZtermToIndices_any w10.heap.size [none] none 0 0 (fun _ => ⟨#[]⟩) W11 (other_ix _ _ ty W11 (by omega) hc11 t6 t20) (.inl rfl) (by omega) (by simp)).mono ?_
          rintro e w12 ⟨hk12, hr⟩
          have K12 := Lib.hid (K10.out.trans (hk11.trans hk12))
          clear hk12 hk11 hz11 hc11 hW
          rcases hr with ⟨_, rfl⟩ | ⟨ss, a, c, hs, _⟩
          · go_wp2
            go_ret
            exact ⟨rfl, K12.out⟩
          · cases hs
        · have := allSome_app HS1.out h9
          rw [HN2.out] at this
          cases this
      have HS2 := Lib.hid hs2
      have HR2 := Lib.hid hr2
      clear hs2 hr2
      go_wp2_with fail
      refine (zzRefused_any v n1 vc s1 w8 RVF.out (by omega)).mono ?_
      rintro e w9 ⟨rfl, h9⟩
      rcases h9 with ⟨rfl, h9⟩ | ⟨rfl, h9⟩
      · have := allSome_app_none [some head] h9
        rw [HS1.out] at this
        cases this
      have H9 := Lib.hid h9
      clear h9
      go_wp2_with fail
      refine (zzRefused_any u n2 uc s2 w8 RUF.out (by omega)).mono ?_
      rintro e w9 ⟨rfl, h9⟩
      rcases h9 with ⟨rfl, h9⟩ | ⟨rfl, h9⟩
      · have := allSome_app_none ([some head] ++ kzs n1 s1) h9
        rw [HS2.out] at this
        cases this
      have e1 : ss1 = head :: (List.range n1).map s1 := by
        have := allSome_app (a := [some head]) (x := [head]) rfl H9.out
        rw [HS1.out] at this
        injection this with this
      have e2 : ss2 = ss1 ++ (List.range n2).map s2 := by
        have := allSome_app HS1.out h9
        rw [HS2.out] at this
        injection this with this
      obtain ⟨M1, hM1⟩ : ∃ M1, M1 = ss1.length := ⟨_, rfl⟩
      obtain ⟨M2, hM2⟩ : ∃ M2, M2 = ss2.length := ⟨_, rfl⟩
      have hM1' : M1 = 1 + n1 := by rw [hM1, e1]; simp; omega
      have hM2' : M2 = M1 + n2 := by rw [hM1, hM2, e2]; simp
      rw [Nat.zero_add, ← hM1] at HR1
      rw [Nat.zero_add, ← hM2] at HR2
      rw [← hM1, ← hM2]
      have f0 : ∀ k, ((List.range 0).map (fun _ : Nat => (⟨#[]⟩ : ByteArray)) ++ ss1).getD k ⟨#[]⟩ = ss1.getD k ⟨#[]⟩ := fun k => rfl
      have f1 : ss1.getD 0 ⟨#[]⟩ = head := by rw [e1]; rfl
      have f2 : ∀ k, k < M1 → ss2.getD k ⟨#[]⟩ = ss1.getD k ⟨#[]⟩ := fun k hk => by
        rw [e2, List.getD_eq_getElem?_getD, List.getElem?_append_left (by omega), ← List.getD_eq_getElem?_getD]
      have f3 : ∀ k, k < n2 → ss2.getD (M1 + k) ⟨#[]⟩ = s2 k := fun k hk => by
        rw [e2, List.getD_eq_getElem?_getD, List.getElem?_append_right (by omega), show M1 + k - ss1.length = k by omega]; simp [hk]
      have HD1 : Hid (Rd w8 (some x1) M1 (fun k => .string (ss1.getD k ⟨#[]⟩))) := HR1.out
      have HD2 : Hid (Rd w8 (some x2) M2 (fun k => .string (ss2.getD k ⟨#[]⟩))) := HR2.out
      have HE := Lib.hid (And.intro f1 (And.intro f2 f3))
      have HM := Lib.hid (And.intro hM1' hM2')
      obtain ⟨xb, xo, ex, hx⟩ := HD1.out.at (k := 0) (by omega)
      rw [Nat.add_zero] at hx
      rw [f1] at hx
      injection ex with ex
      subst ex
      have q1 := beq_yes head
      have p1 : ((M1 : Int) != 1 + (n1 : Int)) = false := by simp; omega
      have p2 : ((M2 : Int) != (M1 : Int) + (n2 : Int)) = false := by simp; omega
      have p3 : (0 : Int) < (M1 : Int) := by omega
      have p4 : M1 ≤ 1048577 := by omega
      clear e1 e2 f0 f1 f2 f3 hM1 hM2 hM1' hM2' H9 h9 HS1 HS2 HR1 HR2
      go_wp2_with fail
      clear hx q1
      go_loopw [23] (fun z wr => ∃ k r : Nat, k ≤ M1 ∧ z = .int .i64 k ∧ wr = w8.drewN r) (fun z _ => M1 - (intOf z).toNat)
      case atStart => exact ⟨0, 0, Nat.zero_le _, rfl, rfl⟩
      case round =>
      obtain ⟨k, r, hk, rfl, rfl⟩ := hrel
      by_cases hlt : k < M1
      · obtain ⟨xb2, xo2, ex, hx⟩ := HD1.out.at hlt
        injection ex with ex
        injection ex with ex1 ex2
        subst ex1 ex2
        obtain ⟨yb, yo, ey, hy⟩ := HD2.out.at (k := k) (by have := HM.out.2; omega)
        injection ey with ey
        subst ey
        rw [HE.out.2.1 k hlt] at hy
        obtain ⟨x, hxx⟩ : ∃ x, x = ss1.getD k ⟨#[]⟩ := ⟨_, rfl⟩
        rw [← hxx] at hx hy
        have q4 : (0 : Int) ≤ (k : Int) := by omega
        have q5 : (k : Int) < (M1 : Int) := by omega
        have q6 : (k : Int) < (M2 : Int) := by have := HM.out.2; omega
        have q7 := beq_yes x
        clear hxx
        go_wp2_with fail
        go_quiet (fail)
        go_wp2
        go_roundw
        case rel => first | exact ⟨k + 1, _, by omega, by go_num, rfl⟩ | ((repeat apply Exists.intro); refine ⟨?_, rfl⟩; exact ⟨k + 1, _, by omega, by go_num, rfl⟩)
        case measure => simp [intOf]; omega
      obtain rfl : M1 = k := by omega
      have hk2 : (M1 : Int) ≤ (M1 : Int) := by omega
      have kd := kept_drewN w8 r
      have HD2Y := Lib.hid (HD2.out.kept kd)
      have RUY := Lib.hid (RUF.out.kept kd)
      have KFY := Lib.hid (KF.out.trans kd)
      have K6Y := Lib.hid (K6.out.trans kd)
      clear HD2 HD1 RUF RVF KF K6 kd hlt hk K7
      revert HD2Y RUY KFY K6Y
      generalize w8.drewN r = Y
      intro HD2Y RUY KFY K6Y
      go_wp2_with fail
      clear hk2
      go_loopw [24] (fun z wr => ∃ k r : Nat, k ≤ n2 ∧ z = .int .i64 k ∧ wr = Y.drewN r) (fun z _ => n2 - (intOf z).toNat)
      case atStart => exact ⟨0, 0, Nat.zero_le _, rfl, rfl⟩
      case round =>
      obtain ⟨k, r, hk, rfl, rfl⟩ := hrel
      by_cases hlt : k < n2
      · obtain ⟨PP, hP⟩ : ∃ PP, PP = M1 + k := ⟨_, rfl⟩
        obtain ⟨yb, yo, ey, hy⟩ := HD2Y.out.at (k := PP) (by have := HM.out.2; omega)
        injection ey with ey
        subst ey
        obtain ⟨zb, zo, rfl, hz⟩ := RUY.out.at hlt
        rw [hP, HE.out.2.2 k hlt, ← hP] at hy
        obtain ⟨x, hxx⟩ : ∃ x, x = s2 k := ⟨_, rfl⟩
        rw [← hxx] at hy hz
        have q4 : (0 : Int) ≤ (k : Int) := by omega
        have q5 : (k : Int) < (n2 : Int) := by omega
        have q6 : (PP : Int) < (M2 : Int) := by have := HM.out.2; omega
        have q8 : (0 : Int) ≤ (PP : Int) := by omega
        have q9 : (M1 : Int) + (k : Int) = (PP : Int) := by omega
        have q7 := beq_yes x
        clear hxx hP
        go_wp2_with fail
        go_quiet (fail)
        go_wp2
        go_roundw
        case rel => first | exact ⟨k + 1, _, by omega, by go_num, rfl⟩ | ((repeat apply Exists.intro); refine ⟨?_, rfl⟩; exact ⟨k + 1, _, by omega, by go_num, rfl⟩)
        case measure => simp [intOf]; omega
      obtain rfl : n2 = k := by omega
      have hk3 : (n2 : Int) ≤ (n2 : Int) := by omega
      have kd := kept_drewN Y r
      have RUF := Lib.hid (RUY.out.kept kd)
      have KF := Lib.hid (KFY.out.trans kd)
      have K6 := Lib.hid (K6Y.out.trans kd)
      clear RUY KFY K6Y kd hlt hk HD2Y
      revert RUF KF K6
      generalize Y.drewN r = Z
      intro RUF KF K6
      by_cases t6 : ty = 6
      · subst t6
        go_wp2
        go_ret
        exact ⟨rfl, KF.out⟩
      by_cases t20 : ty = 20
      · subst t20
        go_wp2
        go_ret
        exact ⟨rfl, KF.out⟩
      have qa : (ty != 6) = true := by simpa using t6
      have qb : (ty != 20) = true := by simpa using t20
      have d1 := kept_cell K6.out HC.out.1
      have d15 := kept_cell K6.out HC.out.2
      have kd := kept_drew Z
      go_wp2_with fail
      go_region_held3 (fun W' => Kept Z W' ∧ W'.cell? ⟨w3.heap.size, 1, none⟩ = some (bq i) ∧ W'.cell? ⟨w5.heap.size, 15, none⟩ = some (bq q2))
        (first | exact ⟨kd, d1, d15⟩ | exact ⟨kd.trans hk10, kept_cell hk10 d1, kept_cell hk10 d15⟩ | exact ⟨(kd.trans hk10).trans (kept_alloc _ _), kept_cell (hk10.trans (kept_alloc _ _)) d1, kept_cell (hk10.trans (kept_alloc _ _)) d15⟩)
        (first
          | (go_at_call 28; refine (zzSuffixes_any u n2 uc s2 _ (RUF.out.kept kd) l2).mono ?_; rintro e w10 ⟨g3, cap3, sb3, rfl, _, _, _, hk10⟩))
      clear d1 d15
      have K10 := Lib.hid (KF.out.trans (kd.trans hk10))
      clear kd hk10
      go_wp2_with fail
      obtain ⟨W11, hW⟩ : ∃ W : World, W = w10.alloc (.cells (termC ty (bq i) ⟨#[]⟩ np np (bq q2) (.slice (some ⟨g3, 0, none⟩) n2 cap3)) 58) := ⟨_, rfl⟩
      have hk11 : Kept w10 W11 := by rw [hW]; exact kept_alloc _ _
      have hz11 : W11.heap.size = w10.heap.size + 1 := by rw [hW]; simp
      have hc11 : W11.cell? ⟨w10.heap.size, 0, none⟩ = some (.int .i64 ty) := by rw [hW]; exact cell_new _ _ _ 0 _ rfl
      rw [← hW]
      refine (ZZtermToIndices_any w10.heap.size [none] none 0 0 (fun _ => ⟨#[]⟩) W11 (other_ix _ _ ty W11 (by omega) hc11 t6 t20) (.inl rfl) (by omega) (by simp)).mono ?_
      rintro e w12 ⟨hk12, hr⟩
      have K12 := Lib.hid (K10.out.trans (hk11.trans hk12))
      clear hk12 hk11 hz11 hc11 hW
      rcases hr with ⟨_, rfl⟩ | ⟨ss, a, c, hs, _⟩
      · go_wp2
        go_ret
        exact ⟨rfl, K12.out⟩
      · cases hs
  | true =>
    cases he : head.toList.isEmpty with
    | true =>
      go_wp2_with fail
      obtain ⟨W1, hW⟩ : ∃ W : World, W = (w2.alloc (.cells #[.string head, ns] 67)).alloc (.cells #[.string ⟨#[]⟩, bq w2.heap.size, np, np, .bool false] 71) := ⟨_, rfl⟩
      obtain ⟨e1, e2, hk⟩ := two_new _ _ _ _ _ _ hW
      have hz : W1.heap.size = w2.heap.size + 1 + 1 := by rw [hW]; simp
      have HI : Hid (IdxIs W1.heap.size W1 (w2.heap.size + 1) (some head)) := ⟨by omega, .inr ⟨e2 0 _ rfl, w2.heap.size, head, none, 0, 0, by omega, e2 1 _ rfl, e1 0 _ rfl, e1 1 _ rfl, rfl⟩⟩
      rw [← hW]
      have HW := Lib.hid hk
      obtain ⟨i, hi⟩ : ∃ i, i = w2.heap.size + 1 := ⟨_, rfl⟩
      rw [← hi] at HI ⊢
      clear e1 e2 hk hz hW hi
      refine (zzSuffixes_any v n1 vc s1 W1 (RV.out.kept HW.out) l1).mono ?_
      rintro e w3 ⟨g, cap, sb, rfl, hg, hrd, hsf, hk3⟩
      have HS := Lib.hid (And.intro hrd hsf)
      have HI3 := Lib.hid (HI.out.up hk3 hk3.size)
      have K3 := Lib.hid (K2.out.trans (HW.out.trans hk3))
      have RV3 := Lib.hid ((RV.out.kept HW.out).kept hk3)
      have RU3 := Lib.hid ((RU.out.kept HW.out).kept hk3)
      have HG := Lib.hid hg
      clear hrd hsf hk3 HI HW hg RV RU K2 K1
      cases nst with
      | false =>
        go_wp2_with fail
        obtain ⟨W4, hW⟩ : ∃ W : World, W = (w3.alloc (.cells (termC 6 (bq i) ⟨#[]⟩ np np np (.slice (some ⟨g, 0, none⟩) n1 cap)) 58)).alloc (.cells (queryC w3.heap.size) 83) := ⟨_, rfl⟩
        obtain ⟨n1', n2', hk4⟩ := two_new _ _ _ _ _ _ hW
        have hz4 : W4.heap.size = w3.heap.size + 1 + 1 := by rw [hW]; simp
        rw [← hW]
        have a0 := n1' 0 _ rfl
        have a1' := n1' 1 _ rfl
        have a16 := n1' 16 _ rfl
        have e3 := n2' 3 _ rfl
        have HF4 := Lib.hid (And.intro a0 (And.intro a1' (And.intro a16 e3)))
        have HN4 := Lib.hid (True.intro)
        have HZ4 := Lib.hid hz4
        have HK4 := Lib.hid hk4
        clear hW n1' n2' a0 a1' a16 e3 hk4 hz4
        refine (zzSuffixes_any u n2 uc s2 W4 (RU3.out.kept HK4.out) l2).mono ?_
        rintro e w5 ⟨g2, cap2, sb2, rfl, hg2, hrd2, hsf2, hk5⟩
        have HS2 := Lib.hid (And.intro hrd2 hsf2)
        have HK5 := Lib.hid hk5
        have HG2 := Lib.hid hg2
        clear hrd2 hsf2 hk5 hg2
        go_wp2_with fail
        obtain ⟨W6, hW⟩ : ∃ W : World, W = w5.alloc (.cells (termC 20 np ⟨#[]⟩ np np (bq (w3.heap.size + 1)) (.slice (some ⟨g2, 0, none⟩) n2 cap2)) 58) := ⟨_, rfl⟩
        have hk6 : Kept w5 W6 := by rw [hW]; exact kept_alloc _ _
        have hz6 : W6.heap.size = w5.heap.size + 1 := by rw [hW]; simp
        have hc6 : ∀ k v, (termC 20 np ⟨#[]⟩ np np (bq (w3.heap.size + 1)) (.slice (some ⟨g2, 0, none⟩) n2 cap2))[k]? = some v → W6.cell? ⟨w5.heap.size, k, none⟩ = some v := fun k v h => by rw [hW]; exact cell_new _ _ _ k _ h
        rw [← hW]
        have k46 : Kept W4 W6 := HK5.out.trans hk6
        have k36 : Kept w3 W6 := HK4.out.trans k46
        have HP : Hid (∀ W : World, Kept W6 W → TermIx W.heap.size W w3.heap.size ([some head] ++ kzs n1 s1)) := by
          intro W hkW
          have hsW := hkW.size
          have hs5 := HK5.out.size
          have hz4 := HZ4.out
          have hg := HG.out
          obtain ⟨y0, y1, y16, _⟩ := HF4.out
          have tix : TermIx W.heap.size W w3.heap.size ([some head] ++ kzs n1 s1) := term_index W.heap.size w3.heap.size i (some ⟨g, 0, none⟩) n1 cap (fun j => kz (s1 j)) sb (some head) W (by omega) (kept_cell hkW (kept_cell k46 y0)) (kept_cell hkW (kept_cell k46 y1)) (HI3.out.up (k36.trans hkW) (by have := k36.size; omega)) (kept_cell hkW (kept_cell k46 y16)) (HS.out.1.kept (k36.trans hkW)) (fun x e => by injection e with e; subst e; simp only; omega) (fun j hj => (HS.out.2 j hj).up (k36.trans hkW) (by have := k36.size; omega))
          exact tix
        have HWr : Hid (∀ W : World, Kept W6 W → TermIx W.heap.size W w5.heap.size (([some head] ++ kzs n1 s1) ++ kzs n2 s2)) := by
          intro W hkW
          have hsW := hkW.size
          have hs5 := HK5.out.size
          have hz4 := HZ4.out
          have hg := HG2.out
          obtain ⟨_, _, _, y3⟩ := HF4.out
          exact term_query W.heap.size w5.heap.size (w3.heap.size + 1) (some ⟨g2, 0, none⟩) n2 cap2 (fun j => kz (s2 j)) sb2 _ W (by omega) (kept_cell hkW (hc6 0 _ rfl)) (kept_cell hkW (hc6 15 _ rfl)) (query_term W.heap.size (w3.heap.size + 1) w3.heap.size _ W (by omega) (kept_cell hkW (kept_cell k46 y3)) (HP.out W hkW)) (kept_cell hkW (hc6 16 _ rfl)) (HS2.out.1.kept (hk6.trans hkW)) (fun x e => by injection e with e; subst e; simp only; omega) (fun j hj => (HS2.out.2 j hj).up (hk6.trans hkW) (by omega))
        have HC : Hid (W6.cell? ⟨w3.heap.size, 1, none⟩ = some (bq i) ∧ W6.cell? ⟨w5.heap.size, 15, none⟩ = some (bq (w3.heap.size + 1))) := ⟨kept_cell k46 HF4.out.2.1, hc6 15 _ rfl⟩
        have KW := Lib.hid (K3.out.trans k36)
        have RV6 := Lib.hid (RV3.out.kept k36)
        have RU6 := Lib.hid (RU3.out.kept k36)
        obtain ⟨q2, hq2⟩ : ∃ q2, q2 = (w3.heap.size + 1) := ⟨_, rfl⟩
        rw [← hq2] at HC
        clear hW hk6 hz6 hc6 k46 k36 HS2 HK5 HG2 HF4 HN4 HZ4 HK4 hq2
        have hkl1 : ([some head] ++ kzs n1 s1).length ≤ 3145728 := by simp [kzs]; omega
        have hkl2 : (([some head] ++ kzs n1 s1) ++ kzs n2 s2).length ≤ 3145728 := by simp [kzs]; omega
        refine (ZZtermToIndices_any w3.heap.size _ none 0 0 (fun _ => ⟨#[]⟩) W6 (HP.out W6 (Below.refl _ _)) (.inl rfl) (by omega) (by omega)).mono ?_
        rintro e w7 ⟨hk7, r1⟩
        have K7 := Lib.hid hk7
        clear hk7
        rcases r1 with ⟨hn1, rfl⟩ | ⟨ss1, x1, cc1, hs1, rfl, hr1⟩
        · go_wp2_with fail
          refine (ZZtermToIndices_any w5.heap.size _ none 0 0 (fun _ => ⟨#[]⟩) w7 (HWr.out w7 K7.out) (.inl rfl) (by omega) (by omega)).mono ?_
          rintro e w8 ⟨hk8, r2⟩
          have K6 := Lib.hid (K7.out.trans hk8)
          have KF := Lib.hid (KW.out.trans (K7.out.trans hk8))
          have RVF := Lib.hid (RV6.out.kept (K7.out.trans hk8))
          have RUF := Lib.hid (RU6.out.kept (K7.out.trans hk8))
          clear hk8 RV6 RU6 HP HWr
          rcases r2 with ⟨hn2, rfl⟩ | ⟨ss2, x2, cc2, hs2, _⟩
          · have HN1 := Lib.hid hn1
            clear hn1 hn2
            go_wp2_with fail
            refine (zzRefused_any v n1 vc s1 w8 RVF.out (by omega)).mono ?_
            rintro e w9 ⟨rfl, h9⟩
            rcases h9 with ⟨rfl, h9⟩ | ⟨rfl, h9⟩
            · clear h9
              by_cases t6 : ty = 6
              · subst t6
                go_wp2
                go_ret
                exact ⟨rfl, KF.out⟩
              by_cases t20 : ty = 20
              · subst t20
                go_wp2
                go_ret
                exact ⟨rfl, KF.out⟩
              have qa : (ty != 6) = true := by simpa using t6
              have qb : (ty != 20) = true := by simpa using t20
              have d1 := kept_cell K6.out HC.out.1
              have d15 := kept_cell K6.out HC.out.2
              have kd := kept_drew w8
              go_wp2_with fail
              go_region_held3 (fun W' => Kept w8 W' ∧ W'.cell? ⟨w3.heap.size, 1, none⟩ = some (bq i) ∧ W'.cell? ⟨w5.heap.size, 15, none⟩ = some (bq q2))
                (first | exact ⟨kd, d1, d15⟩ | exact ⟨kd.trans hk10, kept_cell hk10 d1, kept_cell hk10 d15⟩ | exact ⟨(kd.trans hk10).trans (kept_alloc _ _), kept_cell (hk10.trans (kept_alloc _ _)) d1, kept_cell (hk10.trans (kept_alloc _ _)) d15⟩)
                (first
                  | (go_at_call 28; refine (zzSuffixes_any u n2 uc s2 _ (RUF.out.kept kd) l2).mono ?_; rintro e w10 ⟨g3, cap3, sb3, rfl, _, _, _, hk10⟩))
              clear d1 d15
              have K10 := Lib.hid (KF.out.trans (kd.trans hk10))
              clear kd hk10
              go_wp2_with fail
              obtain ⟨W11, hW⟩ : ∃ W : World, W = w10.alloc (.cells (termC ty (bq i) ⟨#[]⟩ np np (bq q2) (.slice (some ⟨g3, 0, none⟩) n2 cap3)) 58) := ⟨_, rfl⟩
              have hk11 : Kept w10 W11 := by rw [hW]; exact kept_alloc _ _
              have hz11 : W11.heap.size = w10.heap.size + 1 := by rw [hW]; simp
              have hc11 : W11.cell? ⟨w10.heap.size, 0, none⟩ = some (.int .i64 ty) := by rw [hW]; exact cell_new _ _ _ 0 _ rfl
              rw [← hW]
              refine (ZZtermToIndices_any w10.heap.size [none] none 0 0 (fun _ => ⟨#[]⟩) W11 (other_ix _ _ ty W11 (by omega) hc11 t6 t20) (.inl rfl) (by omega) (by simp)).mono ?_
              rintro e w12 ⟨hk12, hr⟩
              have K12 := Lib.hid (K10.out.trans (hk11.trans hk12))
              clear hk12 hk11 hz11 hc11 hW
              rcases hr with ⟨_, rfl⟩ | ⟨ss, a, c, hs, _⟩
              · go_wp2
                go_ret
                exact ⟨rfl, K12.out⟩
              · cases hs
            · have := allSome_app (a := [some head]) (x := [head]) rfl h9
              rw [HN1.out] at this
              cases this
          · rw [allSome_none_app _ hn1] at hs2
            cases hs2
        go_wp2_with fail
        refine (ZZtermToIndices_any w5.heap.size _ none 0 0 (fun _ => ⟨#[]⟩) w7 (HWr.out w7 K7.out) (.inl rfl) (by omega) (by omega)).mono ?_
        rintro e w8 ⟨hk8, r2⟩
        have K6 := Lib.hid (K7.out.trans hk8)
        have KF := Lib.hid (KW.out.trans (K7.out.trans hk8))
        have RVF := Lib.hid (RV6.out.kept (K7.out.trans hk8))
        have RUF := Lib.hid (RU6.out.kept (K7.out.trans hk8))
        have HR1 := Lib.hid (hr1.kept hk8)
        have HS1 := Lib.hid hs1
        clear hk8 RV6 RU6 HP HWr hr1
        rcases r2 with ⟨hn2, rfl⟩ | ⟨ss2, x2, cc2, hs2, rfl, hr2⟩
        · have HN2 := Lib.hid hn2
          clear hn2
          go_wp2_with fail
          refine (zzRefused_any v n1 vc s1 w8 RVF.out (by omega)).mono ?_
          rintro e w9 ⟨rfl, h9⟩
          rcases h9 with ⟨rfl, h9⟩ | ⟨rfl, h9⟩
          · have := allSome_app_none [some head] h9
            rw [HS1.out] at this
            cases this
          have H9 := Lib.hid h9
          clear h9
          go_wp2_with fail
          refine (zzRefused_any u n2 uc s2 w8 RUF.out (by omega)).mono ?_
          rintro e w9 ⟨rfl, h9⟩
          rcases h9 with ⟨rfl, h9⟩ | ⟨rfl, h9⟩
          · clear h9
            by_cases t6 : ty = 6
            · subst t6
              go_wp2
              go_ret
              exact ⟨rfl, KF.out⟩
            by_cases t20 : ty = 20
            · subst t20
              go_wp2
              go_ret
              exact ⟨rfl, KF.out⟩
            have qa : (ty != 6) = true := by simpa using t6
            have qb : (ty != 20) = true := by simpa using t20
            have d1 := kept_cell K6.out HC.out.1
            have d15 := kept_cell K6.out HC.out.2
            have kd := kept_drew w8
            go_wp2_with fail
            go_region_held3 (fun W' => Kept w8 W' ∧ W'.cell? ⟨w3.heap.size, 1, none⟩ = some (bq i) ∧ W'.cell? ⟨w5.heap.size, 15, none⟩ = some (bq q2))
              (first | exact ⟨kd, d1, d15⟩ | exact ⟨kd.trans hk10, kept_cell hk10 d1, kept_cell hk10 d15⟩ | exact ⟨(kd.trans hk10).trans (kept_alloc _ _), kept_cell (hk10.trans (kept_alloc _ _)) d1, kept_cell (hk10.trans (kept_alloc _ _)) d15⟩)
              (first
                | (go_at_call 28; refine (zzSuffixes_any u n2 uc s2 _ (RUF.out.kept kd) l2).mono ?_; rintro e w10 ⟨g3, cap3, sb3, rfl, _, _, _, hk10⟩))
            clear d1 d15
            have K10 := Lib.hid (KF.out.trans (kd.trans hk10))
            clear kd hk10
            go_wp2_with fail
            obtain ⟨W11, hW⟩ : ∃ W : World, W = w10.alloc (.cells (termC ty (bq i) ⟨#[]⟩ np np (bq q2) (.slice (some ⟨g3, 0, none⟩) n2 cap3)) 58) := ⟨_, rfl⟩
            have hk11 : Kept w10 W11 := by rw [hW]; exact kept_alloc _ _
            have hz11 : W11.heap.size = w10.heap.size + 1 := by rw [hW]; simp
            have hc11 : W11.cell? ⟨w10.heap.size, 0, none⟩ = some (.int .i64 ty) := by rw [hW]; exact cell_new _ _ _ 0 _ rfl
            rw [← hW]
            refine (ZZtermToIndices_any w10.heap.size [none] none 0 0 (fun _ => ⟨#[]⟩) W11 (other_ix _ _ ty W11 (by omega) hc11 t6 t20) (.inl rfl) (by omega) (by simp)).mono ?_
            rintro e w12 ⟨hk12, hr⟩
            have K12 := Lib.hid (K10.out.trans (hk11.trans hk12))
            clear hk12 hk11 hz11 hc11 hW
            rcases hr with ⟨_, rfl⟩ | ⟨ss, a, c, hs, _⟩
            · go_wp2
              go_ret
              exact ⟨rfl, K12.out⟩
            · cases hs
          · have := allSome_app HS1.out h9
            rw [HN2.out] at this
            cases this
        have HS2 := Lib.hid hs2
        have HR2 := Lib.hid hr2
        clear hs2 hr2
        go_wp2_with fail
        refine (zzRefused_any v n1 vc s1 w8 RVF.out (by omega)).mono ?_
        rintro e w9 ⟨rfl, h9⟩
        rcases h9 with ⟨rfl, h9⟩ | ⟨rfl, h9⟩
        · have := allSome_app_none [some head] h9
          rw [HS1.out] at this
          cases this
        have H9 := Lib.hid h9
        clear h9
        go_wp2_with fail
        refine (zzRefused_any u n2 uc s2 w8 RUF.out (by omega)).mono ?_
        rintro e w9 ⟨rfl, h9⟩
        rcases h9 with ⟨rfl, h9⟩ | ⟨rfl, h9⟩
        · have := allSome_app_none ([some head] ++ kzs n1 s1) h9
          rw [HS2.out] at this
          cases this
        have e1 : ss1 = head :: (List.range n1).map s1 := by
          have := allSome_app (a := [some head]) (x := [head]) rfl H9.out
          rw [HS1.out] at this
          injection this with this
        have e2 : ss2 = ss1 ++ (List.range n2).map s2 := by
          have := allSome_app HS1.out h9
          rw [HS2.out] at this
          injection this with this
        obtain ⟨M1, hM1⟩ : ∃ M1, M1 = ss1.length := ⟨_, rfl⟩
        obtain ⟨M2, hM2⟩ : ∃ M2, M2 = ss2.length := ⟨_, rfl⟩
        have hM1' : M1 = 1 + n1 := by rw [hM1, e1]; simp; omega
        have hM2' : M2 = M1 + n2 := by rw [hM1, hM2, e2]; simp
        rw [Nat.zero_add, ← hM1] at HR1
        rw [Nat.zero_add, ← hM2] at HR2
        rw [← hM1, ← hM2]
        have f0 : ∀ k, ((List.range 0).map (fun _ : Nat => (⟨#[]⟩ : ByteArray)) ++ ss1).getD k ⟨#[]⟩ = ss1.getD k ⟨#[]⟩ := fun k => rfl
        have f1 : ss1.getD 0 ⟨#[]⟩ = head := by rw [e1]; rfl
        have f2 : ∀ k, k < M1 → ss2.getD k ⟨#[]⟩ = ss1.getD k ⟨#[]⟩ := fun k hk => by
          rw [e2, List.getD_eq_getElem?_getD, List.getElem?_append_left (by omega), ← List.getD_eq_getElem?_getD]
        have f3 : ∀ k, k < n2 → ss2.getD (M1 + k) ⟨#[]⟩ = s2 k := fun k hk => by
          rw [e2, List.getD_eq_getElem?_getD, List.getElem?_append_right (by omega), show M1 + k - ss1.length = k by omega]; simp [hk]
        have HD1 : Hid (Rd w8 (some x1) M1 (fun k => .string (ss1.getD k ⟨#[]⟩))) := HR1.out
        have HD2 : Hid (Rd w8 (some x2) M2 (fun k => .string (ss2.getD k ⟨#[]⟩))) := HR2.out
        have HE := Lib.hid (And.intro f1 (And.intro f2 f3))
        have HM := Lib.hid (And.intro hM1' hM2')
        obtain ⟨xb, xo, ex, hx⟩ := HD1.out.at (k := 0) (by omega)
        rw [Nat.add_zero] at hx
        rw [f1] at hx
        injection ex with ex
        subst ex
        have q1 := beq_yes head
        have p1 : ((M1 : Int) != 1 + (n1 : Int)) = false := by simp; omega
        have p2 : ((M2 : Int) != (M1 : Int) + (n2 : Int)) = false := by simp; omega
        have p3 : (0 : Int) < (M1 : Int) := by omega
        have p4 : M1 ≤ 1048577 := by omega
        clear e1 e2 f0 f1 f2 f3 hM1 hM2 hM1' hM2' H9 h9 HS1 HS2 HR1 HR2
        go_wp2_with fail
        clear hx q1
        go_loopw [23] (fun z wr => ∃ k r : Nat, k ≤ M1 ∧ z = .int .i64 k ∧ wr = w8.drewN r) (fun z _ => M1 - (intOf z).toNat)
        case atStart => exact ⟨0, 0, Nat.zero_le _, rfl, rfl⟩
        case round =>
        obtain ⟨k, r, hk, rfl, rfl⟩ := hrel
        by_cases hlt : k < M1
        · obtain ⟨xb2, xo2, ex, hx⟩ := HD1.out.at hlt
          injection ex with ex
          injection ex with ex1 ex2
          subst ex1 ex2
          obtain ⟨yb, yo, ey, hy⟩ := HD2.out.at (k := k) (by have := HM.out.2; omega)
          injection ey with ey
          subst ey
          rw [HE.out.2.1 k hlt] at hy
          obtain ⟨x, hxx⟩ : ∃ x, x = ss1.getD k ⟨#[]⟩ := ⟨_, rfl⟩
          rw [← hxx] at hx hy
          have q4 : (0 : Int) ≤ (k : Int) := by omega
          have q5 : (k : Int) < (M1 : Int) := by omega
          have q6 : (k : Int) < (M2 : Int) := by have := HM.out.2; omega
          have q7 := beq_yes x
          clear hxx
          go_wp2_with fail
          go_quiet (fail)
          go_wp2
          go_roundw
          case rel => first | exact ⟨k + 1, _, by omega, by go_num, rfl⟩ | ((repeat apply Exists.intro); refine ⟨?_, rfl⟩; exact ⟨k + 1, _, by omega, by go_num, rfl⟩)
          case measure => simp [intOf]; omega
        obtain rfl : M1 = k := by omega
        have hk2 : (M1 : Int) ≤ (M1 : Int) := by omega
        have kd := kept_drewN w8 r
        have HD2Y := Lib.hid (HD2.out.kept kd)
        have RUY := Lib.hid (RUF.out.kept kd)
        have KFY := Lib.hid (KF.out.trans kd)
        have K6Y := Lib.hid (K6.out.trans kd)
        clear HD2 HD1 RUF RVF KF K6 kd hlt hk K7
        revert HD2Y RUY KFY K6Y
        generalize w8.drewN r = Y
        intro HD2Y RUY KFY K6Y
        go_wp2_with fail
        clear hk2
        go_loopw [24] (fun z wr => ∃ k r : Nat, k ≤ n2 ∧ z = .int .i64 k ∧ wr = Y.drewN r) (fun z _ => n2 - (intOf z).toNat)
        case atStart => exact ⟨0, 0, Nat.zero_le _, rfl, rfl⟩
        case round =>
        obtain ⟨k, r, hk, rfl, rfl⟩ := hrel
        by_cases hlt : k < n2
        · obtain ⟨PP, hP⟩ : ∃ PP, PP = M1 + k := ⟨_, rfl⟩
          obtain ⟨yb, yo, ey, hy⟩ := HD2Y.out.at (k := PP) (by have := HM.out.2; omega)
          injection ey with ey
          subst ey
          obtain ⟨zb, zo, rfl, hz⟩ := RUY.out.at hlt
          rw [hP, HE.out.2.2 k hlt, ← hP] at hy
          obtain ⟨x, hxx⟩ : ∃ x, x = s2 k := ⟨_, rfl⟩
          rw [← hxx] at hy hz
          have q4 : (0 : Int) ≤ (k : Int) := by omega
          have q5 : (k : Int) < (n2 : Int) := by omega
          have q6 : (PP : Int) < (M2 : Int) := by have := HM.out.2; omega
          have q8 : (0 : Int) ≤ (PP : Int) := by omega
          have q9 : (M1 : Int) + (k : Int) = (PP : Int) := by omega
          have q7 := beq_yes x
          clear hxx hP
          go_wp2_with fail
          go_quiet (fail)
          go_wp2
          go_roundw
          case rel => first | exact ⟨k + 1, _, by omega, by go_num, rfl⟩ | ((repeat apply Exists.intro); refine ⟨?_, rfl⟩; exact ⟨k + 1, _, by omega, by go_num, rfl⟩)
          case measure => simp [intOf]; omega
        obtain rfl : n2 = k := by omega
        have hk3 : (n2 : Int) ≤ (n2 : Int) := by omega
        have kd := kept_drewN Y r
        have RUF := Lib.hid (RUY.out.kept kd)
        have KF := Lib.hid (KFY.out.trans kd)
        have K6 := Lib.hid (K6Y.out.trans kd)
        clear RUY KFY K6Y kd hlt hk HD2Y
        revert RUF KF K6
        generalize Y.drewN r = Z
        intro RUF KF K6
        by_cases t6 : ty = 6
        · subst t6
          go_wp2
          go_ret
          exact ⟨rfl, KF.out⟩
        by_cases t20 : ty = 20
        · subst t20
          go_wp2
          go_ret
          exact ⟨rfl, KF.out⟩
        have qa : (ty != 6) = true := by simpa using t6
        have qb : (ty != 20) = true := by simpa using t20
        have d1 := kept_cell K6.out HC.out.1
        have d15 := kept_cell K6.out HC.out.2
        have kd := kept_drew Z
        go_wp2_with fail
        go_region_held3 (fun W' => Kept Z W' ∧ W'.cell? ⟨w3.heap.size, 1, none⟩ = some (bq i) ∧ W'.cell? ⟨w5.heap.size, 15, none⟩ = some (bq q2))
          (first | exact ⟨kd, d1, d15⟩ | exact ⟨kd.trans hk10, kept_cell hk10 d1, kept_cell hk10 d15⟩ | exact ⟨(kd.trans hk10).trans (kept_alloc _ _), kept_cell (hk10.trans (kept_alloc _ _)) d1, kept_cell (hk10.trans (kept_alloc _ _)) d15⟩)
          (first
            | (go_at_call 28; refine (zzSuffixes_any u n2 uc s2 _ (RUF.out.kept kd) l2).mono ?_; rintro e w10 ⟨g3, cap3, sb3, rfl, _, _, _, hk10⟩))
        clear d1 d15
        have K10 := Lib.hid (KF.out.trans (kd.trans hk10))
        clear kd hk10
        go_wp2_with fail
        obtain ⟨W11, hW⟩ : ∃ W : World, W = w10.alloc (.cells (termC ty (bq i) ⟨#[]⟩ np np (bq q2) (.slice (some ⟨g3, 0, none⟩) n2 cap3)) 58) := ⟨_, rfl⟩
        have hk11 : Kept w10 W11 := by rw [hW]; exact kept_alloc _ _
        have hz11 : W11.heap.size = w10.heap.size + 1 := by rw [hW]; simp
        have hc11 : W11.cell? ⟨w10.heap.size, 0, none⟩ = some (.int .i64 ty) := by rw [hW]; exact cell_new _ _ _ 0 _ rfl
        rw [← hW]
        refine (ZZtermToIndices_any w10.heap.size [none] none 0 0 (fun _ => ⟨#[]⟩) W11 (other_ix _ _ ty W11 (by omega) hc11 t6 t20) (.inl rfl) (by omega) (by simp)).mono ?_
        rintro e w12 ⟨hk12, hr⟩
        have K12 := Lib.hid (K10.out.trans (hk11.trans hk12))
        clear hk12 hk11 hz11 hc11 hW
        rcases hr with ⟨_, rfl⟩ | ⟨ss, a, c, hs, _⟩
        · go_wp2
          go_ret
          exact ⟨rfl, K12.out⟩
        · cases hs
      | true =>
        go_wp2_with fail
        obtain ⟨W4, hW⟩ : ∃ W : World, W = (((w3.alloc (.cells (termC 6 (bq i) ⟨#[]⟩ np np np (.slice (some ⟨g, 0, none⟩) n1 cap)) 58)).alloc (.cells (queryC w3.heap.size) 83)).alloc (.cells (termC 20 np ⟨#[]⟩ np np (bq (w3.heap.size + 1)) ns) 58)).alloc (.cells (queryC (w3.heap.size + 1 + 1)) 83) := ⟨_, rfl⟩
        obtain ⟨n1', n2a, n3a, n2', hk4⟩ := four_new _ _ _ _ _ _ _ _ _ _ hW
        have hz4 : W4.heap.size = w3.heap.size + 1 + 1 + 1 + 1 := by rw [hW]; simp
        rw [← hW]
        have a0 := n1' 0 _ rfl
        have a1' := n1' 1 _ rfl
        have a16 := n1' 16 _ rfl
        have e3 := n2' 3 _ rfl
        have b3 := n2a 3 _ rfl
        have b0 := n3a 0 _ rfl
        have b15 := n3a 15 _ rfl
        have b16 := n3a 16 _ rfl
        have HF4 := Lib.hid (And.intro a0 (And.intro a1' (And.intro a16 e3)))
        have HN4 := Lib.hid (And.intro b0 (And.intro b15 (And.intro b16 b3)))
        have HZ4 := Lib.hid hz4
        have HK4 := Lib.hid hk4
        clear hW n1' n2' a0 a1' a16 e3 hk4 hz4 n2a n3a b0 b15 b16 b3
        refine (zzSuffixes_any u n2 uc s2 W4 (RU3.out.kept HK4.out) l2).mono ?_
        rintro e w5 ⟨g2, cap2, sb2, rfl, hg2, hrd2, hsf2, hk5⟩
        have HS2 := Lib.hid (And.intro hrd2 hsf2)
        have HK5 := Lib.hid hk5
        have HG2 := Lib.hid hg2
        clear hrd2 hsf2 hk5 hg2
        go_wp2_with fail
        obtain ⟨W6, hW⟩ : ∃ W : World, W = w5.alloc (.cells (termC 20 np ⟨#[]⟩ np np (bq (w3.heap.size + 1 + 1 + 1)) (.slice (some ⟨g2, 0, none⟩) n2 cap2)) 58) := ⟨_, rfl⟩
        have hk6 : Kept w5 W6 := by rw [hW]; exact kept_alloc _ _
        have hz6 : W6.heap.size = w5.heap.size + 1 := by rw [hW]; simp
        have hc6 : ∀ k v, (termC 20 np ⟨#[]⟩ np np (bq (w3.heap.size + 1 + 1 + 1)) (.slice (some ⟨g2, 0, none⟩) n2 cap2))[k]? = some v → W6.cell? ⟨w5.heap.size, k, none⟩ = some v := fun k v h => by rw [hW]; exact cell_new _ _ _ k _ h
        rw [← hW]
        have k46 : Kept W4 W6 := HK5.out.trans hk6
        have k36 : Kept w3 W6 := HK4.out.trans k46
        have HP : Hid (∀ W : World, Kept W6 W → TermIx W.heap.size W (w3.heap.size + 1 + 1) ([some head] ++ kzs n1 s1)) := by
          intro W hkW
          have hsW := hkW.size
          have hs5 := HK5.out.size
          have hz4 := HZ4.out
          have hg := HG.out
          obtain ⟨y0, y1, y16, _⟩ := HF4.out
          have tix : TermIx W.heap.size W w3.heap.size ([some head] ++ kzs n1 s1) := term_index W.heap.size w3.heap.size i (some ⟨g, 0, none⟩) n1 cap (fun j => kz (s1 j)) sb (some head) W (by omega) (kept_cell hkW (kept_cell k46 y0)) (kept_cell hkW (kept_cell k46 y1)) (HI3.out.up (k36.trans hkW) (by have := k36.size; omega)) (kept_cell hkW (kept_cell k46 y16)) (HS.out.1.kept (k36.trans hkW)) (fun x e => by injection e with e; subst e; simp only; omega) (fun j hj => (HS.out.2 j hj).up (k36.trans hkW) (by have := k36.size; omega))
          obtain ⟨z0, z15, z16, z3⟩ := HN4.out
          have x0 := kept_cell k46 z0
          have x15 := kept_cell k46 z15
          have x16 := kept_cell k46 z16
          have x3 := kept_cell k46 z3
          have := term_query W.heap.size (w3.heap.size + 1 + 1) (w3.heap.size + 1) none 0 0 (fun _ => none) (fun _ => 0) _ W (by omega) (kept_cell hkW x0) (kept_cell hkW x15) (query_term W.heap.size (w3.heap.size + 1) w3.heap.size _ W (by omega) (kept_cell hkW x3) tix) (kept_cell hkW x16) (.inl rfl) (fun x e => by cases e) (fun j hj => absurd hj (Nat.not_lt_zero _))
          simpa using this
        have HWr : Hid (∀ W : World, Kept W6 W → TermIx W.heap.size W w5.heap.size (([some head] ++ kzs n1 s1) ++ kzs n2 s2)) := by
          intro W hkW
          have hsW := hkW.size
          have hs5 := HK5.out.size
          have hz4 := HZ4.out
          have hg := HG2.out
          obtain ⟨_, _, _, y3⟩ := HF4.out
          exact term_query W.heap.size w5.heap.size (w3.heap.size + 1 + 1 + 1) (some ⟨g2, 0, none⟩) n2 cap2 (fun j => kz (s2 j)) sb2 _ W (by omega) (kept_cell hkW (hc6 0 _ rfl)) (kept_cell hkW (hc6 15 _ rfl)) (query_term W.heap.size (w3.heap.size + 1 + 1 + 1) (w3.heap.size + 1 + 1) _ W (by omega) (kept_cell hkW (kept_cell k46 y3)) (HP.out W hkW)) (kept_cell hkW (hc6 16 _ rfl)) (HS2.out.1.kept (hk6.trans hkW)) (fun x e => by injection e with e; subst e; simp only; omega) (fun j hj => (HS2.out.2 j hj).up (hk6.trans hkW) (by omega))
        have HC : Hid (W6.cell? ⟨w3.heap.size, 1, none⟩ = some (bq i) ∧ W6.cell? ⟨w5.heap.size, 15, none⟩ = some (bq (w3.heap.size + 1 + 1 + 1))) := ⟨kept_cell k46 HF4.out.2.1, hc6 15 _ rfl⟩
        have KW := Lib.hid (K3.out.trans k36)
        have RV6 := Lib.hid (RV3.out.kept k36)
        have RU6 := Lib.hid (RU3.out.kept k36)
        obtain ⟨q2, hq2⟩ : ∃ q2, q2 = (w3.heap.size + 1 + 1 + 1) := ⟨_, rfl⟩
        rw [← hq2] at HC
        clear hW hk6 hz6 hc6 k46 k36 HS2 HK5 HG2 HF4 HN4 HZ4 HK4 hq2
        have hkl1 : ([some head] ++ kzs n1 s1).length ≤ 3145728 := by simp [kzs]; omega
        have hkl2 : (([some head] ++ kzs n1 s1) ++ kzs n2 s2).length ≤ 3145728 := by simp [kzs]; omega
        refine (ZZtermToIndices_any (w3.heap.size + 1 + 1) _ none 0 0 (fun _ => ⟨#[]⟩) W6 (HP.out W6 (Below.refl _ _)) (.inl rfl) (by omega) (by omega)).mono ?_
        rintro e w7 ⟨hk7, r1⟩
        have K7 := Lib.hid hk7
        clear hk7
        rcases r1 with ⟨hn1, rfl⟩ | ⟨ss1, x1, cc1, hs1, rfl, hr1⟩
        · go_wp2_with fail
          refine (ZZtermToIndices_any w5.heap.size _ none 0 0 (fun _ => ⟨#[]⟩) w7 (HWr.out w7 K7.out) (.inl rfl) (by omega) (by omega)).mono ?_
          rintro e w8 ⟨hk8, r2⟩
          have K6 := Lib.hid (K7.out.trans hk8)
          have KF := Lib.hid (KW.out.trans (K7.out.trans hk8))
          have RVF := Lib.hid (RV6.out.kept (K7.out.trans hk8))
          have RUF := Lib.hid (RU6.out.kept (K7.out.trans hk8))
          clear hk8 RV6 RU6 HP HWr
          rcases r2 with ⟨hn2, rfl⟩ | ⟨ss2, x2, cc2, hs2, _⟩
          · have HN1 := Lib.hid hn1
            clear hn1 hn2
            go_wp2_with fail
            refine (zzRefused_any v n1 vc s1 w8 RVF.out (by omega)).mono ?_
            rintro e w9 ⟨rfl, h9⟩
            rcases h9 with ⟨rfl, h9⟩ | ⟨rfl, h9⟩
            · clear h9
              by_cases t6 : ty = 6
              · subst t6
                go_wp2
                go_ret
                exact ⟨rfl, KF.out⟩
              by_cases t20 : ty = 20
              · subst t20
                go_wp2
                go_ret
                exact ⟨rfl, KF.out⟩
              have qa : (ty != 6) = true := by simpa using t6
              have qb : (ty != 20) = true := by simpa using t20
              have d1 := kept_cell K6.out HC.out.1
              have d15 := kept_cell K6.out HC.out.2
              have kd := kept_drew w8
              go_wp2_with fail
              go_region_held3 (fun W' => Kept w8 W' ∧ W'.cell? ⟨w3.heap.size, 1, none⟩ = some (bq i) ∧ W'.cell? ⟨w5.heap.size, 15, none⟩ = some (bq q2))
                (first | exact ⟨kd, d1, d15⟩ | exact ⟨kd.trans hk10, kept_cell hk10 d1, kept_cell hk10 d15⟩ | exact ⟨(kd.trans hk10).trans (kept_alloc _ _), kept_cell (hk10.trans (kept_alloc _ _)) d1, kept_cell (hk10.trans (kept_alloc _ _)) d15⟩)
                (first
                  | (go_at_call 28; refine (zzSuffixes_any u n2 uc s2 _ (RUF.out.kept kd) l2).mono ?_; rintro e w10 ⟨g3, cap3, sb3, rfl, _, _, _, hk10⟩))
              clear d1 d15
              have K10 := Lib.hid (KF.out.trans (kd.trans hk10))
              clear kd hk10
              go_wp2_with fail
              obtain ⟨W11, hW⟩ : ∃ W : World, W = w10.alloc (.cells (termC ty (bq i) ⟨#[]⟩ np np (bq q2) (.slice (some ⟨g3, 0, none⟩) n2 cap3)) 58) := ⟨_, rfl⟩
              have hk11 : Kept w10 W11 := by rw [hW]; exact kept_alloc _ _
              have hz11 : W11.heap.size = w10.heap.size + 1 := by rw [hW]; simp
              have hc11 : W11.cell? ⟨w10.heap.size, 0, none⟩ = some (.int .i64 ty) := by rw [hW]; exact cell_new _ _ _ 0 _ rfl
              rw [← hW]
              refine (ZZtermToIndices_any w10.heap.size [none] none 0 0 (fun _ => ⟨#[]⟩) W11 (other_ix _ _ ty W11 (by omega) hc11 t6 t20) (.inl rfl) (by omega) (by simp)).mono ?_
              rintro e w12 ⟨hk12, hr⟩
              have K12 := Lib.hid (K10.out.trans (hk11.trans hk12))
              clear hk12 hk11 hz11 hc11 hW
              rcases hr with ⟨_, rfl⟩ | ⟨ss, a, c, hs, _⟩
              · go_wp2
                go_ret
                exact ⟨rfl, K12.out⟩
              · cases hs
            · have := allSome_app (a := [some head]) (x := [head]) rfl h9
              rw [HN1.out] at this
              cases this
          · rw [allSome_none_app _ hn1] at hs2
            cases hs2
        go_wp2_with fail
        refine (ZZtermToIndices_any w5.heap.size _ none 0 0 (fun _ => ⟨#[]⟩) w7 (HWr.out w7 K7.out) (.inl rfl) (by omega) (by omega)).mono ?_
        rintro e w8 ⟨hk8, r2⟩
        have K6 := Lib.hid (K7.out.trans hk8)
        have KF := Lib.hid (KW.out.trans (K7.out.trans hk8))
        have RVF := Lib.hid (RV6.out.kept (K7.out.trans hk8))
        have RUF := Lib.hid (RU6.out.kept (K7.out.trans hk8))
        have HR1 := Lib.hid (hr1.kept hk8)
        have HS1 := Lib.hid hs1
        clear hk8 RV6 RU6 HP HWr hr1
        rcases r2 with ⟨hn2, rfl⟩ | ⟨ss2, x2, cc2, hs2, rfl, hr2⟩
        · have HN2 := Lib.hid hn2
          clear hn2
          go_wp2_with fail
          refine (zzRefused_any v n1 vc s1 w8 RVF.out (by omega)).mono ?_
          rintro e w9 ⟨rfl, h9⟩
          rcases h9 with ⟨rfl, h9⟩ | ⟨rfl, h9⟩
          · have := allSome_app_none [some head] h9
            rw [HS1.out] at this
            cases this
          have H9 := Lib.hid h9
          clear h9
          go_wp2_with fail
          refine (zzRefused_any u n2 uc s2 w8 RUF.out (by omega)).mono ?_
          rintro e w9 ⟨rfl, h9⟩
          rcases h9 with ⟨rfl, h9⟩ | ⟨rfl, h9⟩
          · clear h9
            by_cases t6 : ty = 6
            · subst t6
              go_wp2
              go_ret
              exact ⟨rfl, KF.out⟩
            by_cases t20 : ty = 20
            · subst t20
              go_wp2
              go_ret
              exact ⟨rfl, KF.out⟩
            have qa : (ty != 6) = true := by simpa using t6
            have qb : (ty != 20) = true := by simpa using t20
            have d1 := kept_cell K6.out HC.out.1
            have d15 := kept_cell K6.out HC.out.2
            have kd := kept_drew w8
            go_wp2_with fail
            go_region_held3 (fun W' => Kept w8 W' ∧ W'.cell? ⟨w3.heap.size, 1, none⟩ = some (bq i) ∧ W'.cell? ⟨w5.heap.size, 15, none⟩ = some (bq q2))
              (first | exact ⟨kd, d1, d15⟩ | exact ⟨kd.trans hk10, kept_cell hk10 d1, kept_cell hk10 d15⟩ | exact ⟨(kd.trans hk10).trans (kept_alloc _ _), kept_cell (hk10.trans (kept_alloc _ _)) d1, kept_cell (hk10.trans (kept_alloc _ _)) d15⟩)
              (first
                | (go_at_call 28; refine (zzSuffixes_any u n2 uc s2 _ (RUF.out.kept kd) l2).mono ?_; rintro e w10 ⟨g3, cap3, sb3, rfl, _, _, _, hk10⟩))
            clear d1 d15
            have K10 := Lib.hid (KF.out.trans (kd.trans hk10))
            clear kd hk10
            go_wp2_with fail
            obtain ⟨W11, hW⟩ : ∃ W : World, W = w10.alloc (.cells (termC ty (bq i) ⟨#[]⟩ np np (bq q2) (.slice (some ⟨g3, 0, none⟩) n2 cap3)) 58) := ⟨_, rfl⟩
            have hk11 : Kept w10 W11 := by rw [hW]; exact kept_alloc _ _
            have hz11 : W11.heap.size = w10.heap.size + 1 := by rw [hW]; simp
            have hc11 : W11.cell? ⟨w10.heap.size, 0, none⟩ = some (.int .i64 ty) := by rw [hW]; exact cell_new _ _ _ 0 _ rfl
            rw [← hW]
            refine (ZZtermToIndices_any w10.heap.size [none] none 0 0 (fun _ => ⟨#[]⟩) W11 (other_ix _ _ ty W11 (by omega) hc11 t6 t20) (.inl rfl) (by omega) (by simp)).mono ?_
            rintro e w12 ⟨hk12, hr⟩
            have K12 := Lib.hid (K10.out.trans (hk11.trans hk12))
            clear hk12 hk11 hz11 hc11 hW
            rcases hr with ⟨_, rfl⟩ | ⟨ss, a, c, hs, _⟩
            · go_wp2
              go_ret
              exact ⟨rfl, K12.out⟩
            · cases hs
          · have := allSome_app HS1.out h9
            rw [HN2.out] at this
            cases this
        have HS2 := Lib.hid hs2
        have HR2 := Lib.hid hr2
        clear hs2 hr2
        go_wp2_with fail
        refine (zzRefused_any v n1 vc s1 w8 RVF.out (by omega)).mono ?_
        rintro e w9 ⟨rfl, h9⟩
        rcases h9 with ⟨rfl, h9⟩ | ⟨rfl, h9⟩
        · have := allSome_app_none [some head] h9
          rw [HS1.out] at this
          cases this
        have H9 := Lib.hid h9
        clear h9
        go_wp2_with fail
        refine (zzRefused_any u n2 uc s2 w8 RUF.out (by omega)).mono ?_
        rintro e w9 ⟨rfl, h9⟩
        rcases h9 with ⟨rfl, h9⟩ | ⟨rfl, h9⟩
        · have := allSome_app_none ([some head] ++ kzs n1 s1) h9
          rw [HS2.out] at this
          cases this
        have e1 : ss1 = head :: (List.range n1).map s1 := by
          have := allSome_app (a := [some head]) (x := [head]) rfl H9.out
          rw [HS1.out] at this
          injection this with this
        have e2 : ss2 = ss1 ++ (List.range n2).map s2 := by
          have := allSome_app HS1.out h9
          rw [HS2.out] at this
          injection this with this
        obtain ⟨M1, hM1⟩ : ∃ M1, M1 = ss1.length := ⟨_, rfl⟩
        obtain ⟨M2, hM2⟩ : ∃ M2, M2 = ss2.length := ⟨_, rfl⟩
        have hM1' : M1 = 1 + n1 := by rw [hM1, e1]; simp; omega
        have hM2' : M2 = M1 + n2 := by rw [hM1, hM2, e2]; simp
        rw [Nat.zero_add, ← hM1] at HR1
        rw [Nat.zero_add, ← hM2] at HR2
        rw [← hM1, ← hM2]
        have f0 : ∀ k, ((List.range 0).map (fun _ : Nat => (⟨#[]⟩ : ByteArray)) ++ ss1).getD k ⟨#[]⟩ = ss1.getD k ⟨#[]⟩ := fun k => rfl
        have f1 : ss1.getD 0 ⟨#[]⟩ = head := by rw [e1]; rfl
        have f2 : ∀ k, k < M1 → ss2.getD k ⟨#[]⟩ = ss1.getD k ⟨#[]⟩ := fun k hk => by
          rw [e2, List.getD_eq_getElem?_getD, List.getElem?_append_left (by omega), ← List.getD_eq_getElem?_getD]
        have f3 : ∀ k, k < n2 → ss2.getD (M1 + k) ⟨#[]⟩ = s2 k := fun k hk => by
          rw [e2, List.getD_eq_getElem?_getD, List.getElem?_append_right (by omega), show M1 + k - ss1.length = k by omega]; simp [hk]
        have HD1 : Hid (Rd w8 (some x1) M1 (fun k => .string (ss1.getD k ⟨#[]⟩))) := HR1.out
        have HD2 : Hid (Rd w8 (some x2) M2 (fun k => .string (ss2.getD k ⟨#[]⟩))) := HR2.out
        have HE := Lib.hid (And.intro f1 (And.intro f2 f3))
        have HM := Lib.hid (And.intro hM1' hM2')
        obtain ⟨xb, xo, ex, hx⟩ := HD1.out.at (k := 0) (by omega)
        rw [Nat.add_zero] at hx
        rw [f1] at hx
        injection ex with ex
        subst ex
        have q1 := beq_yes head
        have p1 : ((M1 : Int) != 1 + (n1 : Int)) = false := by simp; omega
        have p2 : ((M2 : Int) != (M1 : Int) + (n2 : Int)) = false := by simp; omega
        have p3 : (0 : Int) < (M1 : Int) := by omega
        have p4 : M1 ≤ 1048577 := by omega
        clear e1 e2 f0 f1 f2 f3 hM1 hM2 hM1' hM2' H9 h9 HS1 HS2 HR1 HR2
        go_wp2_with fail
        clear hx q1
        go_loopw [23] (fun z wr => ∃ k r : Nat, k ≤ M1 ∧ z = .int .i64 k ∧ wr = w8.drewN r) (fun z _ => M1 - (intOf z).toNat)
        case atStart => exact ⟨0, 0, Nat.zero_le _, rfl, rfl⟩
        case round =>
        obtain ⟨k, r, hk, rfl, rfl⟩ := hrel
        by_cases hlt : k < M1
        · obtain ⟨xb2, xo2, ex, hx⟩ := HD1.out.at hlt
          injection ex with ex
          injection ex with ex1 ex2
          subst ex1 ex2
          obtain ⟨yb, yo, ey, hy⟩ := HD2.out.at (k := k) (by have := HM.out.2; omega)
          injection ey with ey
          subst ey
          rw [HE.out.2.1 k hlt] at hy
          obtain ⟨x, hxx⟩ : ∃ x, x = ss1.getD k ⟨#[]⟩ := ⟨_, rfl⟩
          rw [← hxx] at hx hy
          have q4 : (0 : Int) ≤ (k : Int) := by omega
          have q5 : (k : Int) < (M1 : Int) := by omega
          have q6 : (k : Int) < (M2 : Int) := by have := HM.out.2; omega
          have q7 := beq_yes x
          clear hxx
          go_wp2_with fail
          go_quiet (fail)
          go_wp2
          go_roundw
          case rel => first | exact ⟨k + 1, _, by omega, by go_num, rfl⟩ | ((repeat apply Exists.intro); refine ⟨?_, rfl⟩; exact ⟨k + 1, _, by omega, by go_num, rfl⟩)
          case measure => simp [intOf]; omega
        obtain rfl : M1 = k := by omega
        have hk2 : (M1 : Int) ≤ (M1 : Int) := by omega
        have kd := kept_drewN w8 r
        have HD2Y := Lib.hid (HD2.out.kept kd)
        have RUY := Lib.hid (RUF.out.kept kd)
        have KFY := Lib.hid (KF.out.trans kd)
        have K6Y := Lib.hid (K6.out.trans kd)
        clear HD2 HD1 RUF RVF KF K6 kd hlt hk K7
        revert HD2Y RUY KFY K6Y
        generalize w8.drewN r = Y
        intro HD2Y RUY KFY K6Y
        go_wp2_with fail
        clear hk2
        go_loopw [24] (fun z wr => ∃ k r : Nat, k ≤ n2 ∧ z = .int .i64 k ∧ wr = Y.drewN r) (fun z _ => n2 - (intOf z).toNat)
        case atStart => exact ⟨0, 0, Nat.zero_le _, rfl, rfl⟩
        case round =>
        obtain ⟨k, r, hk, rfl, rfl⟩ := hrel
        by_cases hlt : k < n2
        · obtain ⟨PP, hP⟩ : ∃ PP, PP = M1 + k := ⟨_, rfl⟩
          obtain ⟨yb, yo, ey, hy⟩ := HD2Y.out.at (k := PP) (by have := HM.out.2; omega)
          injection ey with ey
          subst ey
          obtain ⟨zb, zo, rfl, hz⟩ := RUY.out.at hlt
          rw [hP, HE.out.2.2 k hlt, ← hP] at hy
          obtain ⟨x, hxx⟩ : ∃ x, x = s2 k := ⟨_, rfl⟩
          rw [← hxx] at hy hz
          have q4 : (0 : Int) ≤ (k : Int) := by omega
          have q5 : (k : Int) < (n2 : Int) := by omega
          have q6 : (PP : Int) < (M2 : Int) := by have := HM.out.2; omega
          have q8 : (0 : Int) ≤ (PP : Int) := by omega
          have q9 : (M1 : Int) + (k : Int) = (PP : Int) := by omega
          have q7 := beq_yes x
          clear hxx hP
          go_wp2_with fail
          go_quiet (fail)
          go_wp2
          go_roundw
          case rel => first | exact ⟨k + 1, _, by omega, by go_num, rfl⟩ | ((repeat apply Exists.intro); refine ⟨?_, rfl⟩; exact ⟨k + 1, _, by omega, by go_num, rfl⟩)
          case measure => simp [intOf]; omega
        obtain rfl : n2 = k := by omega
        have hk3 : (n2 : Int) ≤ (n2 : Int) := by omega
        have kd := kept_drewN Y r
        have RUF := Lib.hid (RUY.out.kept kd)
        have KF := Lib.hid (KFY.out.trans kd)
        have K6 := Lib.hid (K6Y.out.trans kd)
        clear RUY KFY K6Y kd hlt hk HD2Y
        revert RUF KF K6
        generalize Y.drewN r = Z
        intro RUF KF K6
        by_cases t6 : ty = 6
        · subst t6
          go_wp2
          go_ret
          exact ⟨rfl, KF.out⟩
        by_cases t20 : ty = 20
        · subst t20
          go_wp2
          go_ret
          exact ⟨rfl, KF.out⟩
        have qa : (ty != 6) = true := by simpa using t6
        have qb : (ty != 20) = true := by simpa using t20
        have d1 := kept_cell K6.out HC.out.1
        have d15 := kept_cell K6.out HC.out.2
        have kd := kept_drew Z
        go_wp2_with fail
        go_region_held3 (fun W' => Kept Z W' ∧ W'.cell? ⟨w3.heap.size, 1, none⟩ = some (bq i) ∧ W'.cell? ⟨w5.heap.size, 15, none⟩ = some (bq q2))
          (first | exact ⟨kd, d1, d15⟩ | exact ⟨kd.trans hk10, kept_cell hk10 d1, kept_cell hk10 d15⟩ | exact ⟨(kd.trans hk10).trans (kept_alloc _ _), kept_cell (hk10.trans (kept_alloc _ _)) d1, kept_cell (hk10.trans (kept_alloc _ _)) d15⟩)
          (first
            | (go_at_call 28; refine (zzSuffixes_any u n2 uc s2 _ (RUF.out.kept kd) l2).mono ?_; rintro e w10 ⟨g3, cap3, sb3, rfl, _, _, _, hk10⟩))
        clear d1 d15
        have K10 := Lib.hid (KF.out.trans (kd.trans hk10))
        clear kd hk10
        go_wp2_with fail
        obtain ⟨W11, hW⟩ : ∃ W : World, W = w10.alloc (.cells (termC ty (bq i) ⟨#[]⟩ np np (bq q2) (.slice (some ⟨g3, 0, none⟩) n2 cap3)) 58) := ⟨_, rfl⟩
        have hk11 : Kept w10 W11 := by rw [hW]; exact kept_alloc _ _
        have hz11 : W11.heap.size = w10.heap.size + 1 := by rw [hW]; simp
        have hc11 : W11.cell? ⟨w10.heap.size, 0, none⟩ = some (.int .i64 ty) := by rw [hW]; exact cell_new _ _ _ 0 _ rfl
        rw [← hW]
        refine (ZZtermToIndices_any w10.heap.size [none] none 0 0 (fun _ => ⟨#[]⟩) W11 (other_ix _ _ ty W11 (by omega) hc11 t6 t20) (.inl rfl) (by omega) (by simp)).mono ?_
        rintro e w12 ⟨hk12, hr⟩
        have K12 := Lib.hid (K10.out.trans (hk11.trans hk12))
        clear hk12 hk11 hz11 hc11 hW
        rcases hr with ⟨_, rfl⟩ | ⟨ss, a, c, hs, _⟩
        · go_wp2
          go_ret
          exact ⟨rfl, K12.out⟩
        · cases hs
    | false =>
      go_wp2_with fail
      obtain ⟨W1, hW⟩ : ∃ W : World, W = ((w2.alloc (.cells #[.string head, ns] 67)).alloc (.cells #[.string ⟨#[]⟩, bq w2.heap.size, np, np, .bool false] 71)).alloc (.cells #[.string head, np, np, np, .bool false] 71) := ⟨_, rfl⟩
      obtain ⟨_, _, e3, hk⟩ := three_new _ _ _ _ _ _ _ _ hW
      have hz : W1.heap.size = w2.heap.size + 1 + 1 + 1 := by rw [hW]; simp
      have HI : Hid (IdxIs W1.heap.size W1 (w2.heap.size + 1 + 1) (some head)) := ⟨by omega, .inl ⟨head, he, e3 0 _ rfl, rfl⟩⟩
      rw [← hW]
      have HW := Lib.hid hk
      obtain ⟨i, hi⟩ : ∃ i, i = w2.heap.size + 1 + 1 := ⟨_, rfl⟩
      rw [← hi] at HI ⊢
      clear e3 hk hz hW hi
      refine (zzSuffixes_any v n1 vc s1 W1 (RV.out.kept HW.out) l1).mono ?_
      rintro e w3 ⟨g, cap, sb, rfl, hg, hrd, hsf, hk3⟩
      have HS := Lib.hid (And.intro hrd hsf)
      have HI3 := Lib.hid (HI.out.up hk3 hk3.size)
      have K3 := Lib.hid (K2.out.trans (HW.out.trans hk3))
      have RV3 := Lib.hid ((RV.out.kept HW.out).kept hk3)
      have RU3 := Lib.hid ((RU.out.kept HW.out).kept hk3)
      have HG := Lib.hid hg
      clear hrd hsf hk3 HI HW hg RV RU K2 K1
      cases nst with
      | false =>
        go_wp2_with fail
        obtain ⟨W4, hW⟩ : ∃ W : World, W = (w3.alloc (.cells (termC 6 (bq i) ⟨#[]⟩ np np np (.slice (some ⟨g, 0, none⟩) n1 cap)) 58)).alloc (.cells (queryC w3.heap.size) 83) := ⟨_, rfl⟩
        obtain ⟨n1', n2', hk4⟩ := two_new _ _ _ _ _ _ hW
        have hz4 : W4.heap.size = w3.heap.size + 1 + 1 := by rw [hW]; simp
        rw [← hW]
        have a0 := n1' 0 _ rfl
        have a1' := n1' 1 _ rfl
        have a16 := n1' 16 _ rfl
        have e3 := n2' 3 _ rfl
        have HF4 := Lib.hid (And.intro a0 (And.intro a1' (And.intro a16 e3)))
        have HN4 := Lib.hid (True.intro)
        have HZ4 := Lib.hid hz4
        have HK4 := Lib.hid hk4
        clear hW n1' n2' a0 a1' a16 e3 hk4 hz4
        refine (zzSuffixes_any u n2 uc s2 W4 (RU3.out.kept HK4.out) l2).mono ?_
        rintro e w5 ⟨g2, cap2, sb2, rfl, hg2, hrd2, hsf2, hk5⟩
        have HS2 := Lib.hid (And.intro hrd2 hsf2)
        have HK5 := Lib.hid hk5
        have HG2 := Lib.hid hg2
        clear hrd2 hsf2 hk5 hg2
        go_wp2_with fail
        obtain ⟨W6, hW⟩ : ∃ W : World, W = w5.alloc (.cells (termC 20 np ⟨#[]⟩ np np (bq (w3.heap.size + 1)) (.slice (some ⟨g2, 0, none⟩) n2 cap2)) 58) := ⟨_, rfl⟩
        have hk6 : Kept w5 W6 := by rw [hW]; exact kept_alloc _ _
        have hz6 : W6.heap.size = w5.heap.size + 1 := by rw [hW]; simp
        have hc6 : ∀ k v, (termC 20 np ⟨#[]⟩ np np (bq (w3.heap.size + 1)) (.slice (some ⟨g2, 0, none⟩) n2 cap2))[k]? = some v → W6.cell? ⟨w5.heap.size, k, none⟩ = some v := fun k v h => by rw [hW]; exact cell_new _ _ _ k _ h
        rw [← hW]
        have k46 : Kept W4 W6 := HK5.out.trans hk6
        have k36 : Kept w3 W6 := HK4.out.trans k46
        have HP : Hid (∀ W : World, Kept W6 W → TermIx W.heap.size W w3.heap.size ([some head] ++ kzs n1 s1)) := by
          intro W hkW
          have hsW := hkW.size
          have hs5 := HK5.out.size
          have hz4 := HZ4.out
          have hg := HG.out
          obtain ⟨y0, y1, y16, _⟩ := HF4.out
          have tix : TermIx W.heap.size W w3.heap.size ([some head] ++ kzs n1 s1) := term_index W.heap.size w3.heap.size i (some ⟨g, 0, none⟩) n1 cap (fun j => kz (s1 j)) sb (some head) W (by omega) (kept_cell hkW (kept_cell k46 y0)) (kept_cell hkW (kept_cell k46 y1)) (HI3.out.up (k36.trans hkW) (by have := k36.size; omega)) (kept_cell hkW (kept_cell k46 y16)) (HS.out.1.kept (k36.trans hkW)) (fun x e => by injection e with e; subst e; simp only; omega) (fun j hj => (HS.out.2 j hj).up (k36.trans hkW) (by have := k36.size; omega))
          exact tix
        have HWr : Hid (∀ W : World, Kept W6 W → TermIx W.heap.size W w5.heap.size (([some head] ++ kzs n1 s1) ++ kzs n2 s2)) := by
          intro W hkW
          have hsW := hkW.size
          have hs5 := HK5.out.size
          have hz4 := HZ4.out
          have hg := HG2.out
          obtain ⟨_, _, _, y3⟩ := HF4.out
          exact term_query W.heap.size w5.heap.size (w3.heap.size + 1) (some ⟨g2, 0, none⟩) n2 cap2 (fun j => kz (s2 j)) sb2 _ W (by omega) (kept_cell hkW (hc6 0 _ rfl)) (kept_cell hkW (hc6 15 _ rfl)) (query_term W.heap.size (w3.heap.size + 1) w3.heap.size _ W (by omega) (kept_cell hkW (kept_cell k46 y3)) (HP.out W hkW)) (kept_cell hkW (hc6 16 _ rfl)) (HS2.out.1.kept (hk6.trans hkW)) (fun x e => by injection e with e; subst e; simp only; omega) (fun j hj => (HS2.out.2 j hj).up (hk6.trans hkW) (by omega))
        have HC : Hid (W6.cell? ⟨w3.heap.size, 1, none⟩ = some (bq i) ∧ W6.cell? ⟨w5.heap.size, 15, none⟩ = some (bq (w3.heap.size + 1))) := ⟨kept_cell k46 HF4.out.2.1, hc6 15 _ rfl⟩
        have KW := Lib.hid (K3.out.trans k36)
        have RV6 := Lib.hid (RV3.out.kept k36)
        have RU6 := Lib.hid (RU3.out.kept k36)
        obtain ⟨q2, hq2⟩ : ∃ q2, q2 = (w3.heap.size + 1) := ⟨_, rfl⟩
        rw [← hq2] at HC
        clear hW hk6 hz6 hc6 k46 k36 HS2 HK5 HG2 HF4 HN4 HZ4 HK4 hq2
        have hkl1 : ([some head] ++ kzs n1 s1).length ≤ 3145728 := by simp [kzs]; omega
        have hkl2 : (([some head] ++ kzs n1 s1) ++ kzs n2 s2).length ≤ 3145728 := by simp [kzs]; omega
        refine (ZZtermToIndices_any w3.heap.size _ none 0 0 (fun _ => ⟨#[]⟩) W6 (HP.out W6 (Below.refl _ _)) (.inl rfl) (by omega) (by omega)).mono ?_
        rintro e w7 ⟨hk7, r1⟩
        have K7 := Lib.hid hk7
        clear hk7
        rcases r1 with ⟨hn1, rfl⟩ | ⟨ss1, x1, cc1, hs1, rfl, hr1⟩
        · go_wp2_with fail
          refine (ZZtermToIndices_any w5.heap.size _ none 0 0 (fun _ => ⟨#[]⟩) w7 (HWr.out w7 K7.out) (.inl rfl) (by omega) (by omega)).mono ?_
          rintro e w8 ⟨hk8, r2⟩
          have K6 := Lib.hid (K7.out.trans hk8)
          have KF := Lib.hid (KW.out.trans (K7.out.trans hk8))
          have RVF := Lib.hid (RV6.out.kept (K7.out.trans hk8))
          have RUF := Lib.hid (RU6.out.kept (K7.out.trans hk8))
          clear hk8 RV6 RU6 HP HWr
          rcases r2 with ⟨hn2, rfl⟩ | ⟨ss2, x2, cc2, hs2, _⟩
          · have HN1 := Lib.hid hn1
            clear hn1 hn2
            go_wp2_with fail
            refine (zzRefused_any v n1 vc s1 w8 RVF.out (by omega)).mono ?_
            rintro e w9 ⟨rfl, h9⟩
            rcases h9 with ⟨rfl, h9⟩ | ⟨rfl, h9⟩
            · clear h9
              by_cases t6 : ty = 6
              · subst t6
                go_wp2
                go_ret
                exact ⟨rfl, KF.out⟩
              by_cases t20 : ty = 20
              · subst t20
                go_wp2
                go_ret
                exact ⟨rfl, KF.out⟩
              have qa : (ty != 6) = true := by simpa using t6
              have qb : (ty != 20) = true := by simpa using t20
              have d1 := kept_cell K6.out HC.out.1
              have d15 := kept_cell K6.out HC.out.2
              have kd := kept_drew w8
              go_wp2_with fail
              go_region_held3 (fun W' => Kept w8 W' ∧ W'.cell? ⟨w3.heap.size, 1, none⟩ = some (bq i) ∧ W'.cell? ⟨w5.heap.size, 15, none⟩ = some (bq q2))
                (first | exact ⟨kd, d1, d15⟩ | exact ⟨kd.trans hk10, kept_cell hk10 d1, kept_cell hk10 d15⟩ | exact ⟨(kd.trans hk10).trans (kept_alloc _ _), kept_cell (hk10.trans (kept_alloc _ _)) d1, kept_cell (hk10.trans (kept_alloc _ _)) d15⟩)
                (first
                  | (go_at_call 28; refine (zzSuffixes_any u n2 uc s2 _ (RUF.out.kept kd) l2).mono ?_; rintro e w10 ⟨g3, cap3, sb3, rfl, _, _, _, hk10⟩))
              clear d1 d15
              have K10 := Lib.hid (KF.out.trans (kd.trans hk10))
              clear kd hk10
              go_wp2_with fail
              obtain ⟨W11, hW⟩ : ∃ W : World, W = w10.alloc (.cells (termC ty (bq i) ⟨#[]⟩ np np (bq q2) (.slice (some ⟨g3, 0, none⟩) n2 cap3)) 58) := ⟨_, rfl⟩
              have hk11 : Kept w10 W11 := by rw [hW]; exact kept_alloc _ _
              have hz11 : W11.heap.size = w10.heap.size + 1 := by rw [hW]; simp
              have hc11 : W11.cell? ⟨w10.heap.size, 0, none⟩ = some (.int .i64 ty) := by rw [hW]; exact cell_new _ _ _ 0 _ rfl
              rw [← hW]
              refine (ZZtermToIndices_any w10.heap.size [none] none 0 0 (fun _ => ⟨#[]⟩) W11 (other_ix _ _ ty W11 (by omega) hc11 t6 t20) (.inl rfl) (by omega) (by simp)).mono ?_
              rintro e w12 ⟨hk12, hr⟩
              have K12 := Lib.hid (K10.out.trans (hk11.trans hk12))
              clear hk12 hk11 hz11 hc11 hW
              rcases hr with ⟨_, rfl⟩ | ⟨ss, a, c, hs, _⟩
              · go_wp2
                go_ret
                exact ⟨rfl, K12.out⟩
              · cases hs
            · have := allSome_app (a := [some head]) (x := [head]) rfl h9
              rw [HN1.out] at this
              cases this
          · rw [allSome_none_app _ hn1] at hs2
            cases hs2
        go_wp2_with fail
        refine (ZZtermToIndices_any w5.heap.size _ none 0 0 (fun _ => ⟨#[]⟩) w7 (HWr.out w7 K7.out) (.inl rfl) (by omega) (by omega)).mono ?_
        rintro e w8 ⟨hk8, r2⟩
        have K6 := Lib.hid (K7.out.trans hk8)
        have KF := Lib.hid (KW.out.trans (K7.out.trans hk8))
        have RVF := Lib.hid (RV6.out.kept (K7.out.trans hk8))
        have RUF := Lib.hid (RU6.out.kept (K7.out.trans hk8))
        have HR1 := Lib.hid (hr1.kept hk8)
        have HS1 := Lib.hid hs1
        clear hk8 RV6 RU6 HP HWr hr1
        rcases r2 with ⟨hn2, rfl⟩ | ⟨ss2, x2, cc2, hs2, rfl, hr2⟩
        · have HN2 := Lib.hid hn2
          clear hn2
          go_wp2_with fail
          refine (zzRefused_any v n1 vc s1 w8 RVF.out (by omega)).mono ?_
          rintro e w9 ⟨rfl, h9⟩
          rcases h9 with ⟨rfl, h9⟩ | ⟨rfl, h9⟩
          · have := allSome_app_none [some head] h9
            rw [HS1.out] at this
            cases this
          have H9 := Lib.hid h9
          clear h9
          go_wp2_with fail
          refine (zzRefused_any u n2 uc s2 w8 RUF.out (by omega)).mono ?_
          rintro e w9 ⟨rfl, h9⟩
          rcases h9 with ⟨rfl, h9⟩ | ⟨rfl, h9⟩
          · clear h9
            by_cases t6 : ty = 6
            · subst t6
              go_wp2
              go_ret
              exact ⟨rfl, KF.out⟩
            by_cases t20 : ty = 20
            · subst t20
              go_wp2
              go_ret
              exact ⟨rfl, KF.out⟩
            have qa : (ty != 6) = true := by simpa using t6
            have qb : (ty != 20) = true := by simpa using t20
            have d1 := kept_cell K6.out HC.out.1
            have d15 := kept_cell K6.out HC.out.2
            have kd := kept_drew w8
            go_wp2_with fail
            go_region_held3 (fun W' => Kept w8 W' ∧ W'.cell? ⟨w3.heap.size, 1, none⟩ = some (bq i) ∧ W'.cell? ⟨w5.heap.size, 15, none⟩ = some (bq q2))
              (first | exact ⟨kd, d1, d15⟩ | exact ⟨kd.trans hk10, kept_cell hk10 d1, kept_cell hk10 d15⟩ | exact ⟨(kd.trans hk10).trans (kept_alloc _ _), kept_cell (hk10.trans (kept_alloc _ _)) d1, kept_cell (hk10.trans (kept_alloc _ _)) d15⟩)
              (first
                | (go_at_call 28; refine (zzSuffixes_any u n2 uc s2 _ (RUF.out.kept kd) l2).mono ?_; rintro e w10 ⟨g3, cap3, sb3, rfl, _, _, _, hk10⟩))
            clear d1 d15
            have K10 := Lib.hid (KF.out.trans (kd.trans hk10))
            clear kd hk10
            go_wp2_with fail
            obtain ⟨W11, hW⟩ : ∃ W : World, W = w10.alloc (.cells (termC ty (bq i) ⟨#[]⟩ np np (bq q2) (.slice (some ⟨g3, 0, none⟩) n2 cap3)) 58) := ⟨_, rfl⟩
            have hk11 : Kept w10 W11 := by rw [hW]; exact kept_alloc _ _
            have hz11 : W11.heap.size = w10.heap.size + 1 := by rw [hW]; simp
            have hc11 : W11.cell? ⟨w10.heap.size, 0, none⟩ = some (.int .i64 ty) := by rw [hW]; exact cell_new _ _ _ 0 _ rfl
            rw [← hW]
            refine (ZZtermToIndices_any w10.heap.size [none] none 0 0 (fun _ => ⟨#[]⟩) W11 (other_ix _ _ ty W11 (by omega) hc11 t6 t20) (.inl rfl) (by omega) (by simp)).mono ?_
            rintro e w12 ⟨hk12, hr⟩
            have K12 := Lib.hid (K10.out.trans (hk11.trans hk12))
            clear hk12 hk11 hz11 hc11 hW
            rcases hr with ⟨_, rfl⟩ | ⟨ss, a, c, hs, _⟩
            · go_wp2
              go_ret
              exact ⟨rfl, K12.out⟩
            · cases hs
          · have := allSome_app HS1.out h9
            rw [HN2.out] at this
            cases this
        have HS2 := Lib.hid hs2
        have HR2 := Lib.hid hr2
        clear hs2 hr2
        go_wp2_with fail
        refine (zzRefused_any v n1 vc s1 w8 RVF.out (by omega)).mono ?_
        rintro e w9 ⟨rfl, h9⟩
        rcases h9 with ⟨rfl, h9⟩ | ⟨rfl, h9⟩
        · have := allSome_app_none [some head] h9
          rw [HS1.out] at this
          cases this
        have H9 := Lib.hid h9
        clear h9
        go_wp2_with fail
        refine (zzRefused_any u n2 uc s2 w8 RUF.out (by omega)).mono ?_
        rintro e w9 ⟨rfl, h9⟩
        rcases h9 with ⟨rfl, h9⟩ | ⟨rfl, h9⟩
        · have := allSome_app_none ([some head] ++ kzs n1 s1) h9
          rw [HS2.out] at this
          cases this
        have e1 : ss1 = head :: (List.range n1).map s1 := by
          have := allSome_app (a := [some head]) (x := [head]) rfl H9.out
          rw [HS1.out] at this
          injection this with this
        have e2 : ss2 = ss1 ++ (List.range n2).map s2 := by
          have := allSome_app HS1.out h9
          rw [HS2.out] at this
          injection this with this
        obtain ⟨M1, hM1⟩ : ∃ M1, M1 = ss1.length := ⟨_, rfl⟩
        obtain ⟨M2, hM2⟩ : ∃ M2, M2 = ss2.length := ⟨_, rfl⟩
        have hM1' : M1 = 1 + n1 := by rw [hM1, e1]; simp; omega
        have hM2' : M2 = M1 + n2 := by rw [hM1, hM2, e2]; simp
        rw [Nat.zero_add, ← hM1] at HR1
        rw [Nat.zero_add, ← hM2] at HR2
        rw [← hM1, ← hM2]
        have f0 : ∀ k, ((List.range 0).map (fun _ : Nat => (⟨#[]⟩ : ByteArray)) ++ ss1).getD k ⟨#[]⟩ = ss1.getD k ⟨#[]⟩ := fun k => rfl
        have f1 : ss1.getD 0 ⟨#[]⟩ = head := by rw [e1]; rfl
        have f2 : ∀ k, k < M1 → ss2.getD k ⟨#[]⟩ = ss1.getD k ⟨#[]⟩ := fun k hk => by
          rw [e2, List.getD_eq_getElem?_getD, List.getElem?_append_left (by omega), ← List.getD_eq_getElem?_getD]
        have f3 : ∀ k, k < n2 → ss2.getD (M1 + k) ⟨#[]⟩ = s2 k := fun k hk => by
          rw [e2, List.getD_eq_getElem?_getD, List.getElem?_append_right (by omega), show M1 + k - ss1.length = k by omega]; simp [hk]
        have HD1 : Hid (Rd w8 (some x1) M1 (fun k => .string (ss1.getD k ⟨#[]⟩))) := HR1.out
        have HD2 : Hid (Rd w8 (some x2) M2 (fun k => .string (ss2.getD k ⟨#[]⟩))) := HR2.out
        have HE := Lib.hid (And.intro f1 (And.intro f2 f3))
        have HM := Lib.hid (And.intro hM1' hM2')
        obtain ⟨xb, xo, ex, hx⟩ := HD1.out.at (k := 0) (by omega)
        rw [Nat.add_zero] at hx
        rw [f1] at hx
        injection ex with ex
        subst ex
        have q1 := beq_yes head
        have p1 : ((M1 : Int) != 1 + (n1 : Int)) = false := by simp; omega
        have p2 : ((M2 : Int) != (M1 : Int) + (n2 : Int)) = false := by simp; omega
        have p3 : (0 : Int) < (M1 : Int) := by omega
        have p4 : M1 ≤ 1048577 := by omega
        clear e1 e2 f0 f1 f2 f3 hM1 hM2 hM1' hM2' H9 h9 HS1 HS2 HR1 HR2
        go_wp2_with fail
        clear hx q1
        go_loopw [23] (fun z wr => ∃ k r : Nat, k ≤ M1 ∧ z = .int .i64 k ∧ wr = w8.drewN r) (fun z _ => M1 - (intOf z).toNat)
        case atStart => exact ⟨0, 0, Nat.zero_le _, rfl, rfl⟩
        case round =>
        obtain ⟨k, r, hk, rfl, rfl⟩ := hrel
        by_cases hlt : k < M1
        · obtain ⟨xb2, xo2, ex, hx⟩ := HD1.out.at hlt
          injection ex with ex
          injection ex with ex1 ex2
          subst ex1 ex2
          obtain ⟨yb, yo, ey, hy⟩ := HD2.out.at (k := k) (by have := HM.out.2; omega)
          injection ey with ey
          subst ey
          rw [HE.out.2.1 k hlt] at hy
          obtain ⟨x, hxx⟩ : ∃ x, x = ss1.getD k ⟨#[]⟩ := ⟨_, rfl⟩
          rw [← hxx] at hx hy
          have q4 : (0 : Int) ≤ (k : Int) := by omega
          have q5 : (k : Int) < (M1 : Int) := by omega
          have q6 : (k : Int) < (M2 : Int) := by have := HM.out.2; omega
          have q7 := beq_yes x
          clear hxx
          go_wp2_with fail
          go_quiet (fail)
          go_wp2
          go_roundw
          case rel => first | exact ⟨k + 1, _, by omega, by go_num, rfl⟩ | ((repeat apply Exists.intro); refine ⟨?_, rfl⟩; exact ⟨k + 1, _, by omega, by go_num, rfl⟩)
          case measure => simp [intOf]; omega
        obtain rfl : M1 = k := by omega
        have hk2 : (M1 : Int) ≤ (M1 : Int) := by omega
        have kd := kept_drewN w8 r
        have HD2Y := Lib.hid (HD2.out.kept kd)
        have RUY := Lib.hid (RUF.out.kept kd)
        have KFY := Lib.hid (KF.out.trans kd)
        have K6Y := Lib.hid (K6.out.trans kd)
        clear HD2 HD1 RUF RVF KF K6 kd hlt hk K7
        revert HD2Y RUY KFY K6Y
        generalize w8.drewN r = Y
        intro HD2Y RUY KFY K6Y
        go_wp2_with fail
        clear hk2
        go_loopw [24] (fun z wr => ∃ k r : Nat, k ≤ n2 ∧ z = .int .i64 k ∧ wr = Y.drewN r) (fun z _ => n2 - (intOf z).toNat)
        case atStart => exact ⟨0, 0, Nat.zero_le _, rfl, rfl⟩
        case round =>
        obtain ⟨k, r, hk, rfl, rfl⟩ := hrel
        by_cases hlt : k < n2
        · obtain ⟨PP, hP⟩ : ∃ PP, PP = M1 + k := ⟨_, rfl⟩
          obtain ⟨yb, yo, ey, hy⟩ := HD2Y.out.at (k := PP) (by have := HM.out.2; omega)
          injection ey with ey
          subst ey
          obtain ⟨zb, zo, rfl, hz⟩ := RUY.out.at hlt
          rw [hP, HE.out.2.2 k hlt, ← hP] at hy
          obtain ⟨x, hxx⟩ : ∃ x, x = s2 k := ⟨_, rfl⟩
          rw [← hxx] at hy hz
          have q4 : (0 : Int) ≤ (k : Int) := by omega
          have q5 : (k : Int) < (n2 : Int) := by omega
          have q6 : (PP : Int) < (M2 : Int) := by have := HM.out.2; omega
          have q8 : (0 : Int) ≤ (PP : Int) := by omega
          have q9 : (M1 : Int) + (k : Int) = (PP : Int) := by omega
          have q7 := beq_yes x
          clear hxx hP
          go_wp2_with fail
          go_quiet (fail)
          go_wp2
          go_roundw
          case rel => first | exact ⟨k + 1, _, by omega, by go_num, rfl⟩ | ((repeat apply Exists.intro); refine ⟨?_, rfl⟩; exact ⟨k + 1, _, by omega, by go_num, rfl⟩)
          case measure => simp [intOf]; omega
        obtain rfl : n2 = k := by omega
        have hk3 : (n2 : Int) ≤ (n2 : Int) := by omega
        have kd := kept_drewN Y r
        have RUF := Lib.hid (RUY.out.kept kd)
        have KF := Lib.hid (KFY.out.trans kd)
        have K6 := Lib.hid (K6Y.out.trans kd)
        clear RUY KFY K6Y kd hlt hk HD2Y
        revert RUF KF K6
        generalize Y.drewN r = Z
        intro RUF KF K6
        by_cases t6 : ty = 6
        · subst t6
          go_wp2
          go_ret
          exact ⟨rfl, KF.out⟩
        by_cases t20 : ty = 20
        · subst t20
          go_wp2
          go_ret
          exact ⟨rfl, KF.out⟩
        have qa : (ty != 6) = true := by simpa using t6
        have qb : (ty != 20) = true := by simpa using t20
        have d1 := kept_cell K6.out HC.out.1
        have d15 := kept_cell K6.out HC.out.2
        have kd := kept_drew Z
        go_wp2_with fail
        go_region_held3 (fun W' => Kept Z W' ∧ W'.cell? ⟨w3.heap.size, 1, none⟩ = some (bq i) ∧ W'.cell? ⟨w5.heap.size, 15, none⟩ = some (bq q2))
          (first | exact ⟨kd, d1, d15⟩ | exact ⟨kd.trans hk10, kept_cell hk10 d1, kept_cell hk10 d15⟩ | exact ⟨(kd.trans hk10).trans (kept_alloc _ _), kept_cell (hk10.trans (kept_alloc _ _)) d1, kept_cell (hk10.trans (kept_alloc _ _)) d15⟩)
          (first
            | (go_at_call 28; refine (zzSuffixes_any u n2 uc s2 _ (RUF.out.kept kd) l2).mono ?_; rintro e w10 ⟨g3, cap3, sb3, rfl, _, _, _, hk10⟩))
        clear d1 d15
        have K10 := Lib.hid (KF.out.trans (kd.trans hk10))
        clear kd hk10
        go_wp2_with fail
        obtain ⟨W11, hW⟩ : ∃ W : World, W = w10.alloc (.cells (termC ty (bq i) ⟨#[]⟩ np np (bq q2) (.slice (some ⟨g3, 0, none⟩) n2 cap3)) 58) := ⟨_, rfl⟩
        have hk11 : Kept w10 W11 := by rw [hW]; exact kept_alloc _ _
        have hz11 : W11.heap.size = w10.heap.size + 1 := by rw [hW]; simp
        have hc11 : W11.cell? ⟨w10.heap.size, 0, none⟩ = some (.int .i64 ty) := by rw [hW]; exact cell_new _ _ _ 0 _ rfl
        rw [← hW]
        refine (ZZtermToIndices_any w10.heap.size [none] none 0 0 (fun _ => ⟨#[]⟩) W11 (other_ix _ _ ty W11 (by omega) hc11 t6 t20) (.inl rfl) (by omega) (by simp)).mono ?_
        rintro e w12 ⟨hk12, hr⟩
        have K12 := Lib.hid (K10.out.trans (hk11.trans hk12))
        clear hk12 hk11 hz11 hc11 hW
        rcases hr with ⟨_, rfl⟩ | ⟨ss, a, c, hs, _⟩
        · go_wp2
          go_ret
          exact ⟨rfl, K12.out⟩
        · cases hs
      | true =>
        go_wp2_with fail
        obtain ⟨W4, hW⟩ : ∃ W : World, W = (((w3.alloc (.cells (termC 6 (bq i) ⟨#[]⟩ np np np (.slice (some ⟨g, 0, none⟩) n1 cap)) 58)).alloc (.cells (queryC w3.heap.size) 83)).alloc (.cells (termC 20 np ⟨#[]⟩ np np (bq (w3.heap.size + 1)) ns) 58)).alloc (.cells (queryC (w3.heap.size + 1 + 1)) 83) := ⟨_, rfl⟩
        obtain ⟨n1', n2a, n3a, n2', hk4⟩ := four_new _ _ _ _ _ _ _ _ _ _ hW
        have hz4 : W4.heap.size = w3.heap.size + 1 + 1 + 1 + 1 := by rw [hW]; simp
        rw [← hW]
        have a0 := n1' 0 _ rfl
        have a1' := n1' 1 _ rfl
        have a16 := n1' 16 _ rfl
        have e3 := n2' 3 _ rfl
        have b3 := n2a 3 _ rfl
        have b0 := n3a 0 _ rfl
        have b15 := n3a 15 _ rfl
        have b16 := n3a 16 _ rfl
        have HF4 := Lib.hid (And.intro a0 (And.intro a1' (And.intro a16 e3)))
        have HN4 := Lib.hid (And.intro b0 (And.intro b15 (And.intro b16 b3)))
        have HZ4 := Lib.hid hz4
        have HK4 := Lib.hid hk4
        clear hW n1' n2' a0 a1' a16 e3 hk4 hz4 n2a n3a b0 b15 b16 b3
        refine (zzSuffixes_any u n2 uc s2 W4 (RU3.out.kept HK4.out) l2).mono ?_
        rintro e w5 ⟨g2, cap2, sb2, rfl, hg2, hrd2, hsf2, hk5⟩
        have HS2 := Lib.hid (And.intro hrd2 hsf2)
        have HK5 := Lib.hid hk5
        have HG2 := Lib.hid hg2
        clear hrd2 hsf2 hk5 hg2
        go_wp2_with fail
        obtain ⟨W6, hW⟩ : ∃ W : World, W = w5.alloc (.cells (termC 20 np ⟨#[]⟩ np np (bq (w3.heap.size + 1 + 1 + 1)) (.slice (some ⟨g2, 0, none⟩) n2 cap2)) 58) := ⟨_, rfl⟩
        have hk6 : Kept w5 W6 := by rw [hW]; exact kept_alloc _ _
        have hz6 : W6.heap.size = w5.heap.size + 1 := by rw [hW]; simp
        have hc6 : ∀ k v, (termC 20 np ⟨#[]⟩ np np (bq (w3.heap.size + 1 + 1 + 1)) (.slice (some ⟨g2, 0, none⟩) n2 cap2))[k]? = some v → W6.cell? ⟨w5.heap.size, k, none⟩ = some v := fun k v h => by rw [hW]; exact cell_new _ _ _ k _ h
        rw [← hW]
        have k46 : Kept W4 W6 := HK5.out.trans hk6
        have k36 : Kept w3 W6 := HK4.out.trans k46
        have HP : Hid (∀ W : World, Kept W6 W → TermIx W.heap.size W (w3.heap.size + 1 + 1) ([some head] ++ kzs n1 s1)) := by
          intro W hkW
          have hsW := hkW.size
          have hs5 := HK5.out.size
          have hz4 := HZ4.out
          have hg := HG.out
          obtain ⟨y0, y1, y16, _⟩ := HF4.out
          have tix : TermIx W.heap.size W w3.heap.size ([some head] ++ kzs n1 s1) := term_index W.heap.size w3.heap.size i (some ⟨g, 0, none⟩) n1 cap (fun j => kz (s1 j)) sb (some head) W (by omega) (kept_cell hkW (kept_cell k46 y0)) (kept_cell hkW (kept_cell k46 y1)) (HI3.out.up (k36.trans hkW) (by have := k36.size; omega)) (kept_cell hkW (kept_cell k46 y16)) (HS.out.1.kept (k36.trans hkW)) (fun x e => by injection e with e; subst e; simp only; omega) (fun j hj => (HS.out.2 j hj).up (k36.trans hkW) (by have := k36.size; omega))
          obtain ⟨z0, z15, z16, z3⟩ := HN4.out
          have x0 := kept_cell k46 z0
          have x15 := kept_cell k46 z15
          have x16 := kept_cell k46 z16
          have x3 := kept_cell k46 z3
          have := term_query W.heap.size (w3.heap.size + 1 + 1) (w3.heap.size + 1) none 0 0 (fun _ => none) (fun _ => 0) _ W (by omega) (kept_cell hkW x0) (kept_cell hkW x15) (query_term W.heap.size (w3.heap.size + 1) w3.heap.size _ W (by omega) (kept_cell hkW x3) tix) (kept_cell hkW x16) (.inl rfl) (fun x e => by cases e) (fun j hj => absurd hj (Nat.not_lt_zero _))
          simpa using this
        have HWr : Hid (∀ W : World, Kept W6 W → TermIx W.heap.size W w5.heap.size (([some head] ++ kzs n1 s1) ++ kzs n2 s2)) := by
          intro W hkW
          have hsW := hkW.size
          have hs5 := HK5.out.size
          have hz4 := HZ4.out
          have hg := HG2.out
          obtain ⟨_, _, _, y3⟩ := HF4.out
          exact term_query W.heap.size w5.heap.size (w3.heap.size + 1 + 1 + 1) (some ⟨g2, 0, none⟩) n2 cap2 (fun j => kz (s2 j)) sb2 _ W (by omega) (kept_cell hkW (hc6 0 _ rfl)) (kept_cell hkW (hc6 15 _ rfl)) (query_term W.heap.size (w3.heap.size + 1 + 1 + 1) (w3.heap.size + 1 + 1) _ W (by omega) (kept_cell hkW (kept_cell k46 y3)) (HP.out W hkW)) (kept_cell hkW (hc6 16 _ rfl)) (HS2.out.1.kept (hk6.trans hkW)) (fun x e => by injection e with e; subst e; simp only; omega) (fun j hj => (HS2.out.2 j hj).up (hk6.trans hkW) (by omega))
        have HC : Hid (W6.cell? ⟨w3.heap.size, 1, none⟩ = some (bq i) ∧ W6.cell? ⟨w5.heap.size, 15, none⟩ = some (bq (w3.heap.size + 1 + 1 + 1))) := ⟨kept_cell k46 HF4.out.2.1, hc6 15 _ rfl⟩
        have KW := Lib.hid (K3.out.trans k36)
        have RV6 := Lib.hid (RV3.out.kept k36)
        have RU6 := Lib.hid (RU3.out.kept k36)
        obtain ⟨q2, hq2⟩ : ∃ q2, q2 = (w3.heap.size + 1 + 1 + 1) := ⟨_, rfl⟩
        rw [← hq2] at HC
        clear hW hk6 hz6 hc6 k46 k36 HS2 HK5 HG2 HF4 HN4 HZ4 HK4 hq2
        have hkl1 : ([some head] ++ kzs n1 s1).length ≤ 3145728 := by simp [kzs]; omega
        have hkl2 : (([some head] ++ kzs n1 s1) ++ kzs n2 s2).length ≤ 3145728 := by simp [kzs]; omega
        refine (ZZtermToIndices_any (w3.heap.size + 1 + 1) _ none 0 0 (fun _ => ⟨#[]⟩) W6 (HP.out W6 (Below.refl _ _)) (.inl rfl) (by omega) (by omega)).mono ?_
        rintro e w7 ⟨hk7, r1⟩
        have K7 := Lib.hid hk7
        clear hk7
        rcases r1 with ⟨hn1, rfl⟩ | ⟨ss1, x1, cc1, hs1, rfl, hr1⟩
        · go_wp2_with fail
          refine (ZZtermToIndices_any w5.heap.size _ none 0 0 (fun _ => ⟨#[]⟩) w7 (HWr.out w7 K7.out) (.inl rfl) (by omega) (by omega)).mono ?_
          rintro e w8 ⟨hk8, r2⟩
          have K6 := Lib.hid (K7.out.trans hk8)
          have KF := Lib.hid (KW.out.trans (K7.out.trans hk8))
          have RVF := Lib.hid (RV6.out.kept (K7.out.trans hk8))
          have RUF := Lib.hid (RU6.out.kept (K7.out.trans hk8))
          clear hk8 RV6 RU6 HP HWr
          rcases r2 with ⟨hn2, rfl⟩ | ⟨ss2, x2, cc2, hs2, _⟩
          · have HN1 := Lib.hid hn1
            clear hn1 hn2
            go_wp2_with fail
            refine (zzRefused_any v n1 vc s1 w8 RVF.out (by omega)).mono ?_
            rintro e w9 ⟨rfl, h9⟩
            rcases h9 with ⟨rfl, h9⟩ | ⟨rfl, h9⟩
            · clear h9
              by_cases t6 : ty = 6
              · subst t6
                go_wp2
                go_ret
                exact ⟨rfl, KF.out⟩
              by_cases t20 : ty = 20
              · subst t20
                go_wp2
                go_ret
                exact ⟨rfl, KF.out⟩
              have qa : (ty != 6) = true := by simpa using t6
              have qb : (ty != 20) = true := by simpa using t20
              have d1 := kept_cell K6.out HC.out.1
              have d15 := kept_cell K6.out HC.out.2
              have kd := kept_drew w8
              go_wp2_with fail
              go_region_held3 (fun W' => Kept w8 W' ∧ W'.cell? ⟨w3.heap.size, 1, none⟩ = some (bq i) ∧ W'.cell? ⟨w5.heap.size, 15, none⟩ = some (bq q2))
                (first | exact ⟨kd, d1, d15⟩ | exact ⟨kd.trans hk10, kept_cell hk10 d1, kept_cell hk10 d15⟩ | exact ⟨(kd.trans hk10).trans (kept_alloc _ _), kept_cell (hk10.trans (kept_alloc _ _)) d1, kept_cell (hk10.trans (kept_alloc _ _)) d15⟩)
                (first
                  | (go_at_call 28; refine (zzSuffixes_any u n2 uc s2 _ (RUF.out.kept kd) l2).mono ?_; rintro e w10 ⟨g3, cap3, sb3, rfl, _, _, _, hk10⟩))
              clear d1 d15
              have K10 := Lib.hid (KF.out.trans (kd.trans hk10))
              clear kd hk10
              go_wp2_with fail
              obtain ⟨W11, hW⟩ : ∃ W : World, W = w10.alloc (.cells (termC ty (bq i) ⟨#[]⟩ np np (bq q2) (.slice (some ⟨g3, 0, none⟩) n2 cap3)) 58) := ⟨_, rfl⟩
              have hk11 : Kept w10 W11 := by rw [hW]; exact kept_alloc _ _
              have hz11 : W11.heap.size = w10.heap.size + 1 := by rw [hW]; simp
              have hc11 : W11.cell? ⟨w10.heap.size, 0, none⟩ = some (.int .i64 ty) := by rw [hW]; exact cell_new _ _ _ 0 _ rfl
              rw [← hW]
              refine (ZZtermToIndices_any w10.heap.size [none] none 0 0 (fun _ => ⟨#[]⟩) W11 (other_ix _ _ ty W11 (by omega) hc11 t6 t20) (.inl rfl) (by omega) (by simp)).mono ?_
              rintro e w12 ⟨hk12, hr⟩
              have K12 := Lib.hid (K10.out.trans (hk11.trans hk12))
              clear hk12 hk11 hz11 hc11 hW
              rcases hr with ⟨_, rfl⟩ | ⟨ss, a, c, hs, _⟩
              · go_wp2
                go_ret
                exact ⟨rfl, K12.out⟩
              · cases hs
            · have := allSome_app (a := [some head]) (x := [head]) rfl h9
              rw [HN1.out] at this
              cases this
          · rw [allSome_none_app _ hn1] at hs2
            cases hs2
        go_wp2_with fail
        refine (ZZtermToIndices_any w5.heap.size _ none 0 0 (fun _ => ⟨#[]⟩) w7 (HWr.out w7 K7.out) (.inl rfl) (by omega) (by omega)).mono ?_
        rintro e w8 ⟨hk8, r2⟩
        have K6 := Lib.hid (K7.out.trans hk8)
        have KF := Lib.hid (KW.out.trans (K7.out.trans hk8))
        have RVF := Lib.hid (RV6.out.kept (K7.out.trans hk8))
        have RUF := Lib.hid (RU6.out.kept (K7.out.trans hk8))
        have HR1 := Lib.hid (hr1.kept hk8)
        have HS1 := Lib.hid hs1
        clear hk8 RV6 RU6 HP HWr hr1
        rcases r2 with ⟨hn2, rfl⟩ | ⟨ss2, x2, cc2, hs2, rfl, hr2⟩
        · have HN2 := Lib.hid hn2
          clear hn2
          go_wp2_with fail
          refine (zzRefused_any v n1 vc s1 w8 RVF.out (by omega)).mono ?_
          rintro e w9 ⟨rfl, h9⟩
          rcases h9 with ⟨rfl, h9⟩ | ⟨rfl, h9⟩
          · have := allSome_app_none [some head] h9
            rw [HS1.out] at this
            cases this
          have H9 := Lib.hid h9
          clear h9
          go_wp2_with fail
          refine (zzRefused_any u n2 uc s2 w8 RUF.out (by omega)).mono ?_
          rintro e w9 ⟨rfl, h9⟩
          rcases h9 with ⟨rfl, h9⟩ | ⟨rfl, h9⟩
          · clear h9
            by_cases t6 : ty = 6
            · subst t6
              go_wp2
              go_ret
              exact ⟨rfl, KF.out⟩
            by_cases t20 : ty = 20
            · subst t20
              go_wp2
              go_ret
              exact ⟨rfl, KF.out⟩
            have qa : (ty != 6) = true := by simpa using t6
            have qb : (ty != 20) = true := by simpa using t20
            have d1 := kept_cell K6.out HC.out.1
            have d15 := kept_cell K6.out HC.out.2
            have kd := kept_drew w8
            go_wp2_with fail
            go_region_held3 (fun W' => Kept w8 W' ∧ W'.cell? ⟨w3.heap.size, 1, none⟩ = some (bq i) ∧ W'.cell? ⟨w5.heap.size, 15, none⟩ = some (bq q2))
              (first | exact ⟨kd, d1, d15⟩ | exact ⟨kd.trans hk10, kept_cell hk10 d1, kept_cell hk10 d15⟩ | exact ⟨(kd.trans hk10).trans (kept_alloc _ _), kept_cell (hk10.trans (kept_alloc _ _)) d1, kept_cell (hk10.trans (kept_alloc _ _)) d15⟩)
              (first
                | (go_at_call 28; refine (zzSuffixes_any u n2 uc s2 _ (RUF.out.kept kd) l2).mono ?_; rintro e w10 ⟨g3, cap3, sb3, rfl, _, _, _, hk10⟩))
            clear d1 d15
            have K10 := Lib.hid (KF.out.trans (kd.trans hk10))
            clear kd hk10
            go_wp2_with fail
            obtain ⟨W11, hW⟩ : ∃ W : World, W = w10.alloc (.cells (termC ty (bq i) ⟨#[]⟩ np np (bq q2) (.slice (some ⟨g3, 0, none⟩) n2 cap3)) 58) := ⟨_, rfl⟩
            have hk11 : Kept w10 W11 := by rw [hW]; exact kept_alloc _ _
            have hz11 : W11.heap.size = w10.heap.size + 1 := by rw [hW]; simp
            have hc11 : W11.cell? ⟨w10.heap.size, 0, none⟩ = some (.int .i64 ty) := by rw [hW]; exact cell_new _ _ _ 0 _ rfl
            rw [← hW]
            refine (ZZtermToIndices_any w10.heap.size [none] none 0 0 (fun _ => ⟨#[]⟩) W11 (other_ix _ _ ty W11 (by omega) hc11 t6 t20) (.inl rfl) (by omega) (by simp)).mono ?_
            rintro e w12 ⟨hk12, hr⟩
            have K12 := Lib.hid (K10.out.trans (hk11.trans hk12))
            clear hk12 hk11 hz11 hc11 hW
            rcases hr with ⟨_, rfl⟩ | ⟨ss, a, c, hs, _⟩
            · go_wp2
              go_ret
              exact ⟨rfl, K12.out⟩
            · cases hs
          · have := allSome_app HS1.out h9
            rw [HN2.out] at this
            cases this
        have HS2 := Lib.hid hs2
        have HR2 := Lib.hid hr2
        clear hs2 hr2
        go_wp2_with fail
        refine (zzRefused_any v n1 vc s1 w8 RVF.out (by omega)).mono ?_
        rintro e w9 ⟨rfl, h9⟩
        rcases h9 with ⟨rfl, h9⟩ | ⟨rfl, h9⟩
        · have := allSome_app_none [some head] h9
          rw [HS1.out] at this
          cases this
        have H9 := Lib.hid h9
        clear h9
        go_wp2_with fail
        refine (zzRefused_any u n2 uc s2 w8 RUF.out (by omega)).mono ?_
        rintro e w9 ⟨rfl, h9⟩
        rcases h9 with ⟨rfl, h9⟩ | ⟨rfl, h9⟩
        · have := allSome_app_none ([some head] ++ kzs n1 s1) h9
          rw [HS2.out] at this
          cases this
        have e1 : ss1 = head :: (List.range n1).map s1 := by
          have := allSome_app (a := [some head]) (x := [head]) rfl H9.out
          rw [HS1.out] at this
          injection this with this
        have e2 : ss2 = ss1 ++ (List.range n2).map s2 := by
          have := allSome_app HS1.out h9
          rw [HS2.out] at this
          injection this with this
        obtain ⟨M1, hM1⟩ : ∃ M1, M1 = ss1.length := ⟨_, rfl⟩
        obtain ⟨M2, hM2⟩ : ∃ M2, M2 = ss2.length := ⟨_, rfl⟩
        have hM1' : M1 = 1 + n1 := by rw [hM1, e1]; simp; omega
        have hM2' : M2 = M1 + n2 := by rw [hM1, hM2, e2]; simp
        rw [Nat.zero_add, ← hM1] at HR1
        rw [Nat.zero_add, ← hM2] at HR2
        rw [← hM1, ← hM2]
        have f0 : ∀ k, ((List.range 0).map (fun _ : Nat => (⟨#[]⟩ : ByteArray)) ++ ss1).getD k ⟨#[]⟩ = ss1.getD k ⟨#[]⟩ := fun k => rfl
        have f1 : ss1.getD 0 ⟨#[]⟩ = head := by rw [e1]; rfl
        have f2 : ∀ k, k < M1 → ss2.getD k ⟨#[]⟩ = ss1.getD k ⟨#[]⟩ := fun k hk => by
          rw [e2, List.getD_eq_getElem?_getD, List.getElem?_append_left (by omega), ← List.getD_eq_getElem?_getD]
        have f3 : ∀ k, k < n2 → ss2.getD (M1 + k) ⟨#[]⟩ = s2 k := fun k hk => by
          rw [e2, List.getD_eq_getElem?_getD, List.getElem?_append_right (by omega), show M1 + k - ss1.length = k by omega]; simp [hk]
        have HD1 : Hid (Rd w8 (some x1) M1 (fun k => .string (ss1.getD k ⟨#[]⟩))) := HR1.out
        have HD2 : Hid (Rd w8 (some x2) M2 (fun k => .string (ss2.getD k ⟨#[]⟩))) := HR2.out
        have HE := Lib.hid (And.intro f1 (And.intro f2 f3))
        have HM := Lib.hid (And.intro hM1' hM2')
        obtain ⟨xb, xo, ex, hx⟩ := HD1.out.at (k := 0) (by omega)
        rw [Nat.add_zero] at hx
        rw [f1] at hx
        injection ex with ex
        subst ex
        have q1 := beq_yes head
        have p1 : ((M1 : Int) != 1 + (n1 : Int)) = false := by simp; omega
        have p2 : ((M2 : Int) != (M1 : Int) + (n2 : Int)) = false := by simp; omega
        have p3 : (0 : Int) < (M1 : Int) := by omega
        have p4 : M1 ≤ 1048577 := by omega
        clear e1 e2 f0 f1 f2 f3 hM1 hM2 hM1' hM2' H9 h9 HS1 HS2 HR1 HR2
        go_wp2_with fail
        clear hx q1
        go_loopw [23] (fun z wr => ∃ k r : Nat, k ≤ M1 ∧ z = .int .i64 k ∧ wr = w8.drewN r) (fun z _ => M1 - (intOf z).toNat)
        case atStart => exact ⟨0, 0, Nat.zero_le _, rfl, rfl⟩
        case round =>
        obtain ⟨k, r, hk, rfl, rfl⟩ := hrel
        by_cases hlt : k < M1
        · obtain ⟨xb2, xo2, ex, hx⟩ := HD1.out.at hlt
          injection ex with ex
          injection ex with ex1 ex2
          subst ex1 ex2
          obtain ⟨yb, yo, ey, hy⟩ := HD2.out.at (k := k) (by have := HM.out.2; omega)
          injection ey with ey
          subst ey
          rw [HE.out.2.1 k hlt] at hy
          obtain ⟨x, hxx⟩ : ∃ x, x = ss1.getD k ⟨#[]⟩ := ⟨_, rfl⟩
          rw [← hxx] at hx hy
          have q4 : (0 : Int) ≤ (k : Int) := by omega
          have q5 : (k : Int) < (M1 : Int) := by omega
          have q6 : (k : Int) < (M2 : Int) := by have := HM.out.2; omega
          have q7 := beq_yes x
          clear hxx
          go_wp2_with fail
          go_quiet (fail)
          go_wp2
          go_roundw
          case rel => first | exact ⟨k + 1, _, by omega, by go_num, rfl⟩ | ((repeat apply Exists.intro); refine ⟨?_, rfl⟩; exact ⟨k + 1, _, by omega, by go_num, rfl⟩)
          case measure => simp [intOf]; omega
        obtain rfl : M1 = k := by omega
        have hk2 : (M1 : Int) ≤ (M1 : Int) := by omega
        have kd := kept_drewN w8 r
        have HD2Y := Lib.hid (HD2.out.kept kd)
        have RUY := Lib.hid (RUF.out.kept kd)
        have KFY := Lib.hid (KF.out.trans kd)
        have K6Y := Lib.hid (K6.out.trans kd)
        clear HD2 HD1 RUF RVF KF K6 kd hlt hk K7
        revert HD2Y RUY KFY K6Y
        generalize w8.drewN r = Y
        intro HD2Y RUY KFY K6Y
        go_wp2_with fail
        clear hk2
        go_loopw [24] (fun z wr => ∃ k r : Nat, k ≤ n2 ∧ z = .int .i64 k ∧ wr = Y.drewN r) (fun z _ => n2 - (intOf z).toNat)
        case atStart => exact ⟨0, 0, Nat.zero_le _, rfl, rfl⟩
        case round =>
        obtain ⟨k, r, hk, rfl, rfl⟩ := hrel
        by_cases hlt : k < n2
        · obtain ⟨PP, hP⟩ : ∃ PP, PP = M1 + k := ⟨_, rfl⟩
          obtain ⟨yb, yo, ey, hy⟩ := HD2Y.out.at (k := PP) (by have := HM.out.2; omega)
          injection ey with ey
          subst ey
          obtain ⟨zb, zo, rfl, hz⟩ := RUY.out.at hlt
          rw [hP, HE.out.2.2 k hlt, ← hP] at hy
          obtain ⟨x, hxx⟩ : ∃ x, x = s2 k := ⟨_, rfl⟩
          rw [← hxx] at hy hz
          have q4 : (0 : Int) ≤ (k : Int) := by omega
          have q5 : (k : Int) < (n2 : Int) := by omega
          have q6 : (PP : Int) < (M2 : Int) := by have := HM.out.2; omega
          have q8 : (0 : Int) ≤ (PP : Int) := by omega
          have q9 : (M1 : Int) + (k : Int) = (PP : Int) := by omega
          have q7 := beq_yes x
          clear hxx hP
          go_wp2_with fail
          go_quiet (fail)
          go_wp2
          go_roundw
          case rel => first | exact ⟨k + 1, _, by omega, by go_num, rfl⟩ | ((repeat apply Exists.intro); refine ⟨?_, rfl⟩; exact ⟨k + 1, _, by omega, by go_num, rfl⟩)
          case measure => simp [intOf]; omega
        obtain rfl : n2 = k := by omega
        have hk3 : (n2 : Int) ≤ (n2 : Int) := by omega
        have kd := kept_drewN Y r
        have RUF := Lib.hid (RUY.out.kept kd)
        have KF := Lib.hid (KFY.out.trans kd)
        have K6 := Lib.hid (K6Y.out.trans kd)
        clear RUY KFY K6Y kd hlt hk HD2Y
        revert RUF KF K6
        generalize Y.drewN r = Z
        intro RUF KF K6
        by_cases t6 : ty = 6
        · subst t6
          go_wp2
          go_ret
          exact ⟨rfl, KF.out⟩
        by_cases t20 : ty = 20
        · subst t20
          go_wp2
          go_ret
          exact ⟨rfl, KF.out⟩
        have qa : (ty != 6) = true := by simpa using t6
        have qb : (ty != 20) = true := by simpa using t20
        have d1 := kept_cell K6.out HC.out.1
        have d15 := kept_cell K6.out HC.out.2
        have kd := kept_drew Z
        go_wp2_with fail
        go_region_held3 (fun W' => Kept Z W' ∧ W'.cell? ⟨w3.heap.size, 1, none⟩ = some (bq i) ∧ W'.cell? ⟨w5.heap.size, 15, none⟩ = some (bq q2))
          (first | exact ⟨kd, d1, d15⟩ | exact ⟨kd.trans hk10, kept_cell hk10 d1, kept_cell hk10 d15⟩ | exact ⟨(kd.trans hk10).trans (kept_alloc _ _), kept_cell (hk10.trans (kept_alloc _ _)) d1, kept_cell (hk10.trans (kept_alloc _ _)) d15⟩)
          (first
            | (go_at_call 28; refine (zzSuffixes_any u n2 uc s2 _ (RUF.out.kept kd) l2).mono ?_; rintro e w10 ⟨g3, cap3, sb3, rfl, _, _, _, hk10⟩))
        clear d1 d15
        have K10 := Lib.hid (KF.out.trans (kd.trans hk10))
        clear kd hk10
        go_wp2_with fail
        obtain ⟨W11, hW⟩ : ∃ W : World, W = w10.alloc (.cells (termC ty (bq i) ⟨#[]⟩ np np (bq q2) (.slice (some ⟨g3, 0, none⟩) n2 cap3)) 58) := ⟨_, rfl⟩
        have hk11 : Kept w10 W11 := by rw [hW]; exact kept_alloc _ _
        have hz11 : W11.heap.size = w10.heap.size + 1 := by rw [hW]; simp
        have hc11 : W11.cell? ⟨w10.heap.size, 0, none⟩ = some (.int .i64 ty) := by rw [hW]; exact cell_new _ _ _ 0 _ rfl
        rw [← hW]
        refine (ZZtermToIndices_any w10.heap.size [none] none 0 0 (fun _ => ⟨#[]⟩) W11 (other_ix _ _ ty W11 (by omega) hc11 t6 t20) (.inl rfl) (by omega) (by simp)).mono ?_
        rintro e w12 ⟨hk12, hr⟩
        have K12 := Lib.hid (K10.out.trans (hk11.trans hk12))
        clear hk12 hk11 hz11 hc11 hW
        rcases hr with ⟨_, rfl⟩ | ⟨ss, a, c, hs, _⟩
        · go_wp2
          go_ret
          exact ⟨rfl, K12.out⟩
        · cases hs
end Go.Proofs.YtdlmdmpkjhnbmaaGreatDoor
