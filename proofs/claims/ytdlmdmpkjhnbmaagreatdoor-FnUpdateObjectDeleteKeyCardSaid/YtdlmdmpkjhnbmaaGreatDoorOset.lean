/- The walk of FnUpdateObjectSetsOneKey. -/
import Derived.Test.YtdlmdmpkjhnbmaaGreatDoorObi
namespace Go.Proofs.YtdlmdmpkjhnbmaaGreatDoor
open Go.RowKit Go.Gq
open Go.Sort
set_option maxRecDepth 100000
set_option maxHeartbeats 1000000 in
theorem zzBytes_FnUpdateObjectSetsOneKey_any (a0 : Option Addr) (n0 c0 : Nat) (s : Nat → ByteArray) (a1 : Option Addr) (n1 c1 : Nat) (_z : Nat → Int) (key : ByteArray) (n : Int) (w : World) (h0 : Rd w a0 n0 (fun i => .string (s i))) (m0 : n0 ≤ 9223372036854775807) (m1 : n1 ≤ 9223372036854775807) (mk : key.size ≤ 9223372036854775807) (ms : ∀ i, i < n0 → (s i).size ≤ 9223372036854775807) :
    Calls Tryz.prog 11 #[.slice a0 n0 c0, .slice a1 n1 c1, .string key, .int .i64 n] w (SomeBool w) := by
  have H0 := Lib.hid h0
  have HS := Lib.hid ms
  clear h0 ms
  by_cases g0 : n0 ≤ 1048576
  rotate_left
  · go_enter Tryz.func11, Tryz.ntmps11
    go_wp2
    go_ret
    exact ⟨false, rfl, rfl⟩
  go_enter Tryz.func11, Tryz.ntmps11
  go_wp2
  go_loop [9, 10] (fun t i => ∃ (k : Nat) (z : Int), k ≤ n0 ∧ i = .int .i64 k ∧ t = .int .i64 z ∧ 0 ≤ z ∧ z ≤ 1048576) (fun _ i => n0 - (intOf i).toNat)
  case atStart => exact ⟨0, _, Nat.zero_le _, rfl, rfl, by omega, by omega⟩
  case round =>
    obtain ⟨k, z, hk, rfl, rfl, hz0, hz1⟩ := hrel
    by_cases hlt : k < n0
    · obtain ⟨b, off, e1, hc⟩ := H0.out.at hlt
      subst e1
      obtain ⟨x, hx⟩ : ∃ x, x = s k := ⟨_, rfl⟩
      have hsz : x.size ≤ 9223372036854775807 := by rw [hx]; exact HS.out k hlt
      rw [← hx] at hc
      clear hx
      by_cases q1 : x.size ≤ 1048576
      rotate_left
      · go_wp2
        go_ret
        exact ⟨false, rfl, rfl⟩
      by_cases q2 : z + x.size ≤ 1048576
      rotate_left
      · go_wp2
        go_ret
        exact ⟨false, rfl, rfl⟩
      go_wp2
      go_round
      case rel => exact ⟨k + 1, z + x.size, by omega, by go_num, rfl, by omega, by omega⟩
      case measure => simp [intOf]; omega
    · by_cases q1 : n1 ≤ 1048576
      rotate_left
      · go_wp2
        go_ret
        exact ⟨false, rfl, rfl⟩
      by_cases q2 : z + n1 ≤ 1048576
      rotate_left
      · go_wp2
        go_ret
        exact ⟨false, rfl, rfl⟩
      by_cases q3 : key.size ≤ 1048576
      rotate_left
      · go_wp2
        go_ret
        exact ⟨false, rfl, rfl⟩
      by_cases q4 : z + n1 + key.size ≤ 1048576
      rotate_left
      · go_wp2
        go_ret
        exact ⟨false, rfl, rfl⟩
      go_wp2
      go_ret
      exact ⟨true, rfl, rfl⟩
theorem ib_not_marker (n : Int) (W : World) : (binOp .eql 20 (ib n) (.iface 98 (.agg #[]))).run Tryz.prog W = .ok (.bool false) W := by kernel_rfl
/-- The answers: the object behind, the object before. -/
def SetKeyAns (s : Nat → ByteArray) (z : Nat → Int) (n0 : Nat) (key : ByteArray) (n : Int) (w : World) (e : Ending) (w' : World) : Prop :=
  ∃ ra la rb lb, e = .returned (.tuple #[.map ra, .map rb, .bool true, .bool false]) ∧ (ObjIs w' ra la ∧ ND la ∧ (∀ x, lkp x la = if x = key then some (.int .i64 n) else (lastI s n0 x).map (fun q => .int .i64 (z q))) ∧ ObjIs w' rb lb ∧ ND lb ∧ (∀ x, lkp x lb = (lastI s n0 x).map (fun q => .int .i64 (z q)))) ∧ Kept w w'
theorem obj_ints (s : Nat → ByteArray) (z : Nat → Int) (n0 : Nat) : ∀ x v, lkp x (mapN (fV z) s n0) = some v → ∃ y, v = ib y := fun x v h => by
  rw [lkp_mapN] at h
  obtain ⟨q, _, rfl⟩ := Option.map_eq_some_iff.1 h
  exact ⟨z q, rfl⟩
set_option maxHeartbeats 2000000 in
theorem ZZSetKeyInts_any (hsort : SortOk) (a0 : Option Addr) (n0 c0 : Nat) (s : Nat → ByteArray) (a1 : Option Addr) (c1 : Nat) (z : Nat → Int) (key : ByteArray) (n : Int) (w : World) (hn : n0 ≤ 65536) (h0 : Rd w a0 n0 (fun i => .string (s i))) (h1 : Rd w a1 n0 (fun i => .int .i64 (z i))) :
    Calls Tryz.prog 14 #[.slice a0 n0 c0, .slice a1 n0 c1, .string key, .int .i64 n] w (SetKeyAns s z n0 key n w) := by
  have H0 := Lib.hid h0
  have H1 := Lib.hid h1
  have Hsort := Lib.hid hsort
  clear h0 h1 hsort
  go_enter Tryz.func14, Tryz.ntmps14
  go_wp2_with fail
  refine (zzPairs_rd a0 n0 c0 s a1 c1 z w (by omega) H0.out H1.out).mono ?_
  rintro e w1 ⟨m, rfl, hmn, hmb, hm, hk⟩
  have Hm := Lib.hid hm
  have HK := Lib.hid hk
  have hle := len_mapN (fV z) s n0
  clear hm hk hmn hmb
  go_wp2_with fail
  refine (updateObject_any m _ key none 0 _ (.int .i64 n) none w1 Hm.out (.inl ⟨rfl, rfl⟩) (fun b _ e => by cases e) (by omega) (ib_not_marker n)).mono ?_
  rintro e w2 ⟨b, D, rfl, hb, hD, hlD, hk, _⟩
  have hk2 : Kept w1 w2 := hk.below (Nat.le_refl _) (fun i e => by cases e)
  have HD := Lib.hid (And.intro hD hlD)
  have Hm2 := Lib.hid (Hm.out.kept hk2)
  have HK2 := Lib.hid (HK.out.trans hk2)
  have hlen := len_set (mapIs_nd strKey hD) (nd_mapN (fV z) s n0) hlD
  have hlen2 : D.length ≤ 1048576 := by rw [hlen]; split <;> omega
  clear hk hk2 hD hlD hlen
  go_wp2_with fail
  refine (zzObjectToInts_obj Hsort.out m _ w2 Hm2.out (obj_ints s z n0) (by omega)).mono ?_
  rintro e w3 ⟨rb, lb, rfl, h1, h2, h3, h4⟩
  have HB := Lib.hid (And.intro h1 (And.intro h2 h3))
  have HK3 := Lib.hid (HK2.out.trans h4)
  have hD3 := Lib.hid (mapIs_of_block strKey HD.out.1 (h4.block _ (mapIs_lt strKey HD.out.1)))
  clear h1 h2 h3 h4
  go_wp2_with fail
  refine (zzObjectToInts_obj Hsort.out (some b) D w3 (.inr ⟨_, rfl, hD3.out⟩) (fun x v h => by
    rw [HD.out.2 x] at h
    split at h
    · injection h with h; exact ⟨n, h.symm⟩
    · exact obj_ints s z n0 x v h) hlen2).mono ?_
  rintro e w4 ⟨ra, la, rfl, h1, h2, h3, h4⟩
  have HA := Lib.hid (And.intro h1 (And.intro h2 h3))
  have HK4 := Lib.hid (HK3.out.trans h4)
  have HB4 := Lib.hid (HB.out.1.kept h4)
  clear h1 h2 h3 h4
  go_wp2_with fail
  refine bodyPost_ret (v := .tuple #[.map ra, .map rb, .bool true, .bool false]) (by simp [results, Tryz.results14, go_sem]) rfl ?_
  refine ⟨ra, la, rb, lb, rfl, ⟨HA.out.1, HA.out.2.1, fun x => ?_, HB4.out, HB.out.2.1, fun x => ?_⟩, HK4.out⟩
  · rw [HA.out.2.2 x, HD.out.2 x]
    split
    · rfl
    · rw [lkp_mapN, Option.map_map]; rfl
  · rw [HB.out.2.2 x, lkp_mapN, Option.map_map]; rfl
set_option maxHeartbeats 8000000 in
theorem FnUpdateObjectSetsOneKey_walk (hsort : SortOk) (a0 : Option Addr) (n0 c0 : Nat) (s : Nat → ByteArray) (a1 : Option Addr) (n1 c1 : Nat) (z : Nat → Int) (key : ByteArray) (n : Int) (w : World) (h0 : Rd w a0 n0 (fun i => .string (s i))) (h1 : Rd w a1 n1 (fun i => .int .i64 (z i))) (m0 : n0 ≤ 9223372036854775807) (m1 : n1 ≤ 9223372036854775807) (mk : key.size ≤ 9223372036854775807) (ms : ∀ i, i < n0 → (s i).size ≤ 9223372036854775807) :
    Calls Tryz.prog 3 #[.slice a0 n0 c0, .slice a1 n1 c1, .string key, .int .i64 n] w (TrueKept w) := by
  have H0 := Lib.hid h0
  have H1 := Lib.hid h1
  have HS := Lib.hid ms
  have Hsort := Lib.hid hsort
  have hmi := make_intH n0
  clear h0 h1 ms hsort
  go_enter Tryz.func3, Tryz.ntmps3
  go_wp2_with fail
  refine (zzBytes_FnUpdateObjectSetsOneKey_any a0 n0 c0 s a1 n1 c1 z key n w H0.out m0 m1 mk HS.out).mono ?_
  rintro e w1 ⟨b, rfl, rfl⟩
  cases b with
  | false =>
    go_wp2
    go_ret
    exact ⟨rfl, Below.refl _ _⟩
  | true =>
  by_cases g0 : 65536 < n0
  · go_wp2
    go_ret
    exact ⟨rfl, Below.refl _ _⟩
  by_cases g1 : 65536 < n1
  · go_wp2
    go_ret
    exact ⟨rfl, Below.refl _ _⟩
  by_cases g2 : 65536 < key.size
  · go_wp2
    go_ret
    exact ⟨rfl, Below.refl _ _⟩
  go_wp2_with fail
  go_loop [9, 10] (fun t i => ∃ (k : Nat) (y : Int), k ≤ n0 ∧ i = .int .i64 k ∧ t = .int .i64 y) (fun _ i => n0 - (intOf i).toNat)
  case atStart => exact ⟨0, _, Nat.zero_le _, rfl, rfl⟩
  case round =>
  obtain ⟨k, y, hk, rfl, rfl⟩ := hrel
  by_cases hlt : k < n0
  · obtain ⟨b, off, e1, hc⟩ := H0.out.at hlt
    subst e1
    obtain ⟨x, hx⟩ : ∃ x, x = s k := ⟨_, rfl⟩
    rw [← hx] at hc
    clear hx
    go_wp2
    go_round
    case rel => exact ⟨k + 1, _, by omega, by go_num, rfl⟩
    case measure => simp [intOf]; omega
  have hk2 : (n0 : Int) ≤ (k : Int) := by omega
  by_cases g3 : 1048576 < y
  · go_wp2
    go_ret
    exact ⟨rfl, Below.refl _ _⟩
  by_cases g4 : n0 = n1
  rotate_left
  · have g5 : ((n0 : Int) != (n1 : Int)) = true := by simp; omega
    go_wp2
    go_ret
    exact ⟨rfl, Below.refl _ _⟩
  subst g4
  have g5 : ((n0 : Int) != (n0 : Int)) = false := by simp
  go_wp2_with fail
  clear hlt hk hk2 g1 g3 g5
  refine (zzCloneStrings_rd a0 n0 c0 s w (by omega) H0.out).mono ?_
  rintro e w1 ⟨v, vc, rfl, hvn, hr0, hk1⟩
  have R1 := Lib.hid hr0
  have K1 := Lib.hid hk1
  clear hr0 hk1
  go_wp2_with fail
  refine (zzCloneInts_rd a1 n0 c1 z w1 (by omega) (H1.out.kept K1.out)).mono ?_
  rintro e w2 ⟨u, uc, rfl, hr0, hk2⟩
  have RU := Lib.hid hr0
  have RV := Lib.hid (R1.out.kept hk2)
  have K2 := Lib.hid (K1.out.trans hk2)
  clear hr0 hk2
  go_wp2_with fail
  obtain ⟨W, hW⟩ : ∃ W : World, W = w2.alloc (.map #[] 0) := ⟨_, rfl⟩
  have hk0 : Kept w2 W := by rw [hW]; exact kept_alloc _ _
  have hmA : W.MapIs strKey w2.heap.size [] := by rw [hW]; exact mapIs_new strKey w2
  rw [← hW]
  have HI := Lib.hid (And.intro hk0 hmA)
  clear hk0 hmA hW hmi
  go_loopw [12] (fun i wr => ∃ q : Nat, q ≤ n0 ∧ i = .int .i64 q ∧ Hid (Kept w2 wr ∧ wr.MapIs strKey w2.heap.size (mapN fI s q))) (fun i _ => n0 - (intOf i).toNat)
  case atStart => exact ⟨0, Nat.zero_le _, rfl, HI.out⟩
  case round =>
  obtain ⟨q, hq, rfl, HR⟩ := hrel
  by_cases hlt : q < n0
  · obtain ⟨hk, hA⟩ := HR.out
    obtain ⟨xb, xo, rfl, hc⟩ := (RV.out.kept hk).at hlt
    obtain ⟨x, hx⟩ : ∃ x, x = s q := ⟨_, rfl⟩
    obtain ⟨w3, hu1, hA2, ho2⟩ := run_mapUpdate_assoc strKey (P := Tryz.prog) Tryz.underlying27 Tryz.underlying9 wr hA x (.int .i64 q)
    rw [← hx] at hc
    have HN : Hid (Kept w2 w3 ∧ w3.MapIs strKey w2.heap.size (mapN fI s (q + 1))) := by
      refine ⟨Below.trans hk (ho2.below (Nat.le_refl _)), ?_⟩
      simp only [mapN, ← hx]; exact hA2
    simp only [strKey] at hu1
    clear hx hk hA hA2 ho2 HR
    go_wp2
    go_roundw
    case rel => exact ⟨q + 1, by omega, by go_num, HN.out⟩
    case measure => simp [intOf]; omega
  have hq2 : (n0 : Int) ≤ (q : Int) := by omega
  obtain rfl : q = n0 := by omega
  obtain ⟨hk, hA⟩ := HR.out
  have hlk := run_lookup_assoc strKey (P := Tryz.prog) Tryz.underlying27 Tryz.underlying9 wr hA key _ (zeroInt wr) true
  rw [lkp_mapN] at hlk
  have HM := Lib.hid (And.intro (K2.out.trans hk) hA)
  have RV2 := Lib.hid (RV.out.kept hk)
  have RU2 := Lib.hid (RU.out.kept hk)
  clear hk hA HR HI RV RU K1 K2 R1 hlt hq hq2
  have hle := len_mapN fI s q
  obtain ⟨N, hN⟩ : ∃ N, N = (mapN fI s q).length := ⟨_, rfl⟩
  rw [← hN] at hle
  have hln := fun ty => run_len_assoc strKey (P := Tryz.prog) Tryz.underlying27 wr HM.out.2 ty
  rw [← hN] at hln
  have HN := Lib.hid hN
  clear hN
  cases hg : lastI s q key
  all_goals
    rw [hg] at hlk
    have HG := Lib.hid hg
    clear hg
    simp only [strKey, Option.map_none, Option.map_some, Option.getD_none, Option.getD_some, Option.isSome_none, Option.isSome_some, if_true] at hlk
    go_wp2_with fail
    refine (ZZSetKeyInts_any Hsort.out v q vc s u uc z key n wr (by omega) RV2.out RU2.out).mono ?_
    rintro e w4 ⟨ra, la, rb, lb, rfl, ⟨hA, hAn, hAl, hB, hBn, hBl⟩, hk⟩
    have hL := mapIs_of_block strKey HM.out.2 (hk.block _ (mapIs_lt strKey HM.out.2))
    have e1 : lb.length = N := by
      rw [HN.out]
      exact same_length hBn (nd_mapN fI s q) fun x => by rw [hBl x, lkp_mapN]; simp
    have e2 : la.length = if (lastI s q key).isSome = true then N else N + 1 := by
      have := len_set hAn hBn (key := key) (v := .int .i64 n) (fun x => by rw [hAl x, hBl x])
      rw [this, e1, hBl key]
      simp
    rw [HG.out] at e2
    simp only [Option.isSome_none, Option.isSome_some, Bool.false_eq_true, if_false, if_true] at e2
    have hlna := fun ty => int_len w4 hA ty
    have hlnb := fun ty => int_len w4 hB ty
    have hlnl := fun ty => run_len_assoc strKey (P := Tryz.prog) Tryz.underlying27 w4 hL ty
    rw [e2] at hlna
    rw [e1] at hlnb
    rw [← HN.out] at hlnl
    have k1 := int_lookup w4 hA key
    have k2 := int_lookup w4 hB key
    rw [hAl key, if_pos rfl] at k1
    rw [hBl key, HG.out] at k2
    simp only [Option.map_none, Option.map_some, Option.getD_none, Option.getD_some, Option.isSome_none, Option.isSome_some] at k1 k2
    have HZ := Lib.hid (And.intro hA (And.intro hAl (And.intro hB (And.intro hBl hL))))
    have HK := Lib.hid (HM.out.1.trans hk)
    have RV4 := Lib.hid (RV2.out.kept hk)
    have RU4 := Lib.hid (RU2.out.kept hk)
    have q1 : ((N : Int) != (N : Int)) = false := by simp
    have q2 : (((N : Int) + 1) != (N : Int) + 1) = false := by simp
    have q3 : ((((N + 1 : Nat)) : Int) != (N : Int) + 1) = false := by simp
    have q4 : (n != n) = false := by simp
    clear hA hAn hAl hB hBn hBl hL hk e1 e2 hln hlk
    go_wp2_with fail
    go_loop [24, 25, 26, 27, 28] (fun i _ _ _ _ => ∃ p : Nat, p ≤ q ∧ i = .int .i64 p) (fun i _ _ _ _ => q - (intOf i).toNat)
    case atStart => exact ⟨0, Nat.zero_le _, rfl⟩
    case round =>
      obtain ⟨p, hp, rfl⟩ := hrel
      by_cases hlt : p < q
      · obtain ⟨hA, hAl, hB, hBl, hL⟩ := HZ.out
        obtain ⟨xb, xo, rfl, hc⟩ := RV4.out.at hlt
        obtain ⟨yb, yo, rfl, hcz⟩ := RU4.out.at hlt
        obtain ⟨r, hr, _, _⟩ := lastI_has s q p hlt
        obtain ⟨x, hx⟩ : ∃ x, x = s p := ⟨_, rfl⟩
        rw [← hx] at hc hr
        have l1 := run_lookup_assoc strKey (P := Tryz.prog) Tryz.underlying27 Tryz.underlying9 w4 hL x _ (zeroInt w4) false
        rw [lkp_mapN, hr] at l1
        simp only [strKey, Bool.false_eq_true, if_false, Option.map_some, Option.getD_some] at l1
        by_cases er : r = p
        rotate_left
        · have qr : ((r : Int) != (p : Int)) = true := by simp; omega
          clear hx hr hA hAl hB hBl hL er
          go_wp2
          go_round
          case rel => exact ⟨p + 1, by omega, by go_num⟩
          case measure => simp [intOf]; omega
        subst er
        have qr : ((r : Int) != (r : Int)) = false := by simp
        have qz : (z r != z r) = false := by simp
        have l2 := int_lookup w4 hB x
        rw [hBl x, hr] at l2
        simp only [Option.map_some, Option.getD_some, Option.isSome_some] at l2
        by_cases ex : x = key
        · subst ex
          have qe := beq_yes x
          clear hx hr hA hAl hB hBl hL
          go_wp2
          go_round
          case rel => exact ⟨r + 1, by omega, by go_num⟩
          case measure => simp [intOf]; omega
        · have qe := beq_no ex
          have l3 := int_lookup w4 hA x
          rw [hAl x, if_neg ex, hr] at l3
          simp only [Option.map_some, Option.getD_some, Option.isSome_some] at l3
          clear hx hr hA hAl hB hBl hL ex
          go_wp2
          go_round
          case rel => exact ⟨r + 1, by omega, by go_num⟩
          case measure => simp [intOf]; omega
      · have hp2 : (q : Int) ≤ (p : Int) := by omega
        go_wp2
        go_ret
        exact ⟨rfl, HK.out⟩
end Go.Proofs.YtdlmdmpkjhnbmaaGreatDoor
