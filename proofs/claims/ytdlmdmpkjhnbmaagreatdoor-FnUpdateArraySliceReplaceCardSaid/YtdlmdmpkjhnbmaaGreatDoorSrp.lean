/- The walk of FnUpdateArraySliceReplace. -/
import Derived.Test.YtdlmdmpkjhnbmaaGreatDoorRep
import Derived.Test.YtdlmdmpkjhnbmaaGreatDoorBdd
import Derived.Test.YtdlmdmpkjhnbmaaGreatDoorClo
namespace Go.Proofs.YtdlmdmpkjhnbmaaGreatDoor
open Go.RowKit Go.Gq
attribute [local go_sem] Lib.run_eql_slice_nil
set_option maxRecDepth 100000
theorem zzBytes_FnUpdateArraySliceReplace_any (a0 : Option Addr) (n0 c0 : Nat) (st en : Int) (b1 b2 : Bool) (a5 : Option Addr) (n5 c5 : Nat) (w : World) (h0 : n0 ≤ 9223372036854775807) (h5 : n5 ≤ 9223372036854775807) :
    Calls Tryz.prog 15 #[.slice a0 n0 c0, .int .i64 st, .int .i64 en, .bool b1, .bool b2, .slice a5 n5 c5] w (SomeBool w) := by
  by_cases g0 : n0 ≤ 1048576
  rotate_left
  · go_enter Tryz.func15, Tryz.ntmps15
    go_wp2
    go_ret
    exact ⟨false, rfl, rfl⟩
  by_cases g5 : n5 ≤ 1048576
  rotate_left
  · go_enter Tryz.func15, Tryz.ntmps15
    go_wp2
    go_ret
    exact ⟨false, rfl, rfl⟩
  by_cases g6 : (n0 : Int) + (n5 : Int) ≤ 1048576
  · go_enter Tryz.func15, Tryz.ntmps15
    go_wp2
    go_ret
    exact ⟨true, rfl, rfl⟩
  · go_enter Tryz.func15, Tryz.ntmps15
    go_wp2
    go_ret
    exact ⟨false, rfl, rfl⟩
theorem zzIntsToAny_rd (a : Option Addr) (n c : Nat) (f : Nat → Int) (w : World) (hn : n ≤ 1048576) (h : Rd w a n (fun i => Value.int .i64 (f i))) :
    Calls Tryz.prog 36 #[.slice a n c] w fun e w' => ∃ a' c', e = .returned (.slice a' n c') ∧ n ≤ c' ∧ Rd w' a' n (fun i => ib (f i)) ∧ Kept w w' := by
  cases a with
  | none =>
    obtain rfl := rd_none h
    exact (zzIntsToAny_nil c w).mono fun e w' ⟨h1, h2⟩ => ⟨none, 0, h1, Nat.le_refl _, .inl rfl, h2 ▸ Below.refl _ _⟩
  | some x => exact (zzIntsToAny_some x n c f w hn h).mono fun e w' ⟨b, h1, _, h2, h3⟩ => ⟨_, _, h1, Nat.le_refl _, rd_row h2, h3⟩
theorem zzAnyToInts_none (w : World) (c : Nat) : Calls Tryz.prog 39 #[.iface 92 (.slice none 0 c)] w fun e w' => e = .returned (.tuple #[.slice none 0 0, .slice none 0 0, .bool true, .bool true]) ∧ w = w' := by
  go_enter Tryz.func39, Tryz.ntmps39
  go_wp2
  exact bodyPost_ret (v := .tuple #[.slice none 0 0, .slice none 0 0, .bool true, .bool true]) (by simp [results, Tryz.results39, go_sem]) rfl ⟨rfl, rfl⟩
theorem zzAnyToInts_rd (a : Option Addr) (n c : Nat) (f : Nat → Int) (w : World) (hn : n ≤ 1048576) (h : Rd w a n (fun i => ib (f i))) :
    Calls Tryz.prog 39 #[.iface 92 (.slice a n c)] w fun e w' => ∃ a1 c1 a2 c2 bn, e = .returned (.tuple #[.slice a1 n c1, .slice a2 n c2, .bool bn, .bool true]) ∧ Rd w' a1 n (fun i => .int .i64 (f i)) ∧ Rd w' a2 n (fun _ => .bool true) ∧ Kept w w' := by
  cases a with
  | none =>
    obtain rfl := rd_none h
    exact (zzAnyToInts_none w c).mono fun e w' ⟨h1, h2⟩ => ⟨_, _, _, _, _, h1, .inl rfl, .inl rfl, h2 ▸ Below.refl _ _⟩
  | some x => exact (zzAnyToInts_some x n c f w hn h).mono fun e w' ⟨b1, b2, h1, h2, h3, h4⟩ => ⟨_, _, _, _, _, h1, rd_row h2, rd_row h3, h4⟩
/-- v[:s] ++ u ++ v[e:] at ints. -/
def rz (s U e : Nat) (f g : Nat → Int) : Nat → Int := fun t => if t < s then f t else if t < s + U then g (t - s) else f (e + (t - s - U))
theorem rp_ib (s U e : Nat) (f g : Nat → Int) (t : Nat) : rp s U e (fun i => ib (f i)) (fun i => ib (g i)) t = ib (rz s U e f g t) := by
  unfold rp rz
  split
  · rfl
  · split <;> rfl
def SetAns (T n : Nat) (f z : Nat → Int) (w : World) (e : Ending) (w' : World) : Prop := ∃ a1 c1 a2 c2 bn a3 c3, e = .returned (.tuple #[.slice a1 T c1, .slice a2 T c2, .bool bn, .slice a3 n c3, .bool true, .bool false]) ∧ Rd w' a1 T (fun i => .int .i64 (f i)) ∧ Rd w' a2 T (fun _ => .bool true) ∧ Rd w' a3 n (fun i => .int .i64 (z i)) ∧ Kept w w'
set_option maxHeartbeats 1000000 in
theorem ZZSetSliceInts_any (a0 : Option Addr) (n0 c0 : Nat) (z : Nat → Int) (st en : Int) (b1 b2 : Bool) (a5 : Option Addr) (n5 c5 : Nat) (y : Nat → Int) (sN eN T : Nat) (w : World) (hn : n0 ≤ 65536) (hn5 : n5 ≤ 65536) (h : Rd w a0 n0 (fun t => .int .i64 (z t))) (h5 : Rd w a5 n5 (fun t => .int .i64 (y t))) (s0 : -9223372036854775808 ≤ st) (s1 : st ≤ 9223372036854775807) (e0 : -9223372036854775808 ≤ en) (e1 : en ≤ 9223372036854775807) (hs : sOf n0 (bnd b1 st) = sN) (he : eOf n0 sN (bnd b2 en) = eN) (hT : T = sN + n5 + (n0 - eN)) (hT1 : T ≤ 1048576) :
    Calls Tryz.prog 17 #[.slice a0 n0 c0, .int .i64 st, .int .i64 en, .bool b1, .bool b2, .slice a5 n5 c5] w (SetAns T n0 (rz sN n5 eN z y) z w) := by
  have Hs := Lib.hid hs
  have He := Lib.hid he
  have HT := Lib.hid hT
  have H0 := Lib.hid h
  have H5 := Lib.hid h5
  clear hs he hT h h5
  go_enter Tryz.func17, Tryz.ntmps17
  go_wp2_with fail
  refine (zzIntsToAny_rd a0 n0 c0 z w (by omega) H0.out).mono ?_
  rintro e w0 ⟨v, vc, rfl, hvc, hrow, hk0⟩
  have R0 := Lib.hid hrow
  have K0 := Lib.hid hk0
  clear hrow hk0
  go_wp2_with fail
  refine (zzStartEnd_any st en b1 b2 w0).mono ?_
  rintro e w1 ⟨mb, rfl, hB, hk1⟩
  have HBn := Lib.hid hB
  have K1 := Lib.hid (K0.out.trans hk1)
  have R1 := Lib.hid (R0.out.kept hk1)
  clear hB hk1
  go_wp2_with fail
  refine (zzIntsToAny_rd a5 n5 c5 y w1 (by omega) (H5.out.kept K1.out)).mono ?_
  rintro e w2 ⟨u, uc, rfl, huc, hrow, hk2⟩
  have R5 := Lib.hid hrow
  have K2 := Lib.hid (K1.out.trans hk2)
  have R2 := Lib.hid (R1.out.kept hk2)
  have HB2 := Lib.hid (HBn.out.kept hk2)
  clear hrow hk2 huc
  go_wp2_with fail
  refine (updateArraySlice_rep v n0 vc _ u n5 uc _ (bnd b1 st) (bnd b2 en) sN eN T mb w2 R2.out R5.out (fun _ _ => rfl) (fun _ _ => rfl) hvc HB2.out (bnd_ok s0 s1) (bnd_ok e0 e1) Hs.out He.out hn hn5 HT.out).mono ?_
  rintro e w3 ⟨b', rfl, hrow3, _, hk3⟩
  have R3 : Hid (Rd w3 (some ⟨b', 0, none⟩) T (fun t => ib (rz sN n5 eN z y t))) := rd_row (hrow3.congr fun t _ => rp_ib _ _ _ _ _ t)
  have K3 := Lib.hid (K2.out.trans hk3)
  have RV := Lib.hid (R2.out.kept hk3)
  clear hrow3 hk3
  go_wp2_with fail
  refine (zzAnyToInts_rd v n0 vc z w3 (by omega) RV.out).mono ?_
  rintro e w4 ⟨a3, c3, a4, c4, bm, rfl, h1, h2, hk4⟩
  have HO := Lib.hid h1
  have K4 := Lib.hid (K3.out.trans hk4)
  have R4 := Lib.hid (R3.out.kept hk4)
  clear h1 h2 hk4
  go_wp2_with fail
  refine (zzAnyToInts_rd (some ⟨b', 0, none⟩) T T (rz sN n5 eN z y) w4 hT1 R4.out).mono ?_
  rintro e w5 ⟨a1, c1, a2, c2, bn, rfl, h1, h2, hk5⟩
  have HF : Hid (_ ∧ _ ∧ _ ∧ _) := Lib.hid (And.intro h1 (And.intro h2 (And.intro (HO.out.kept hk5) (K4.out.trans hk5))))
  clear h1 h2 hk5
  go_wp2_with fail
  refine bodyPost_ret (v := .tuple #[.slice a1 T c1, .slice a2 T c2, .bool bn, .slice a3 n0 c3, .bool true, .bool false]) (by simp [results, Tryz.results17, go_sem]) rfl ?_
  exact ⟨_, _, _, _, _, _, _, rfl, HF.out⟩
set_option maxHeartbeats 4000000 in
theorem FnUpdateArraySliceReplace_walk (a0 : Option Addr) (n0 c0 : Nat) (z : Nat → Int) (st en : Int) (b1 b2 : Bool) (a5 : Option Addr) (n5 c5 : Nat) (y : Nat → Int) (w : World) (h0 : Rd w a0 n0 (fun t => .int .i64 (z t))) (h5 : Rd w a5 n5 (fun t => .int .i64 (y t))) (m0 : n0 ≤ 9223372036854775807) (m5 : n5 ≤ 9223372036854775807) (s0 : -9223372036854775808 ≤ st) (s1 : st ≤ 9223372036854775807) (e0 : -9223372036854775808 ≤ en) (e1 : en ≤ 9223372036854775807) :
    Calls Tryz.prog 4 #[.slice a0 n0 c0, .int .i64 st, .int .i64 en, .bool b1, .bool b2, .slice a5 n5 c5] w (TrueKept w) := by
  have H0 := Lib.hid h0
  have H5 := Lib.hid h5
  clear h0 h5
  go_enter Tryz.func4, Tryz.ntmps4
  go_wp2_with fail
  refine (zzBytes_FnUpdateArraySliceReplace_any a0 n0 c0 st en b1 b2 a5 n5 c5 w m0 m5).mono ?_
  rintro e w1 ⟨b, rfl, rfl⟩
  cases b with
  | false =>
    go_wp2
    go_ret
    exact ⟨rfl, Below.refl _ _⟩
  | true =>
  by_cases g0 : 65536 < n0
  · go_wp2
    go_ret
    exact ⟨rfl, Below.refl _ _⟩
  by_cases g5 : 65536 < n5
  · go_wp2
    go_ret
    exact ⟨rfl, Below.refl _ _⟩
  have g6 : 8 * (n0 : Int) + 8 * (n5 : Int) ≤ 1048576 := by omega
  go_wp2_with fail
  refine (zzCloneInts_rd a0 n0 c0 z w (by omega) H0.out).mono ?_
  rintro e w1 ⟨v, vc, rfl, hr0, hk1⟩
  have R1 := Lib.hid hr0
  have K1 := Lib.hid hk1
  clear hr0 hk1
  go_wp2_with fail
  refine (zzCloneInts_rd a5 n5 c5 y w1 (by omega) (H5.out.kept K1.out)).mono ?_
  rintro e w2 ⟨u, uc, rfl, hr0, hk2⟩
  have RU := Lib.hid hr0
  have RV := Lib.hid (R1.out.kept hk2)
  have K2 := Lib.hid (K1.out.trans hk2)
  clear hr0 hk2
  have bs := sOf_bd n0 (bnd b1 st)
  obtain ⟨sN, hs⟩ : ∃ s : Nat, sOf n0 (bnd b1 st) = s := ⟨(sOf n0 (bnd b1 st)).toNat, by omega⟩
  have be := eOf_bd n0 sN (bnd b2 en) (by omega)
  obtain ⟨eN, he⟩ : ∃ e : Nat, eOf n0 sN (bnd b2 en) = e := ⟨(eOf n0 sN (bnd b2 en)).toNat, by omega⟩
  have hsn : sN ≤ eN := by omega
  have hen : eN ≤ n0 := by omega
  have Hs := Lib.hid hs
  have He := Lib.hid he
  clear hs he bs be
  go_wp2_with fail
  refine (zzBounds_any n0 st en b1 b2 w2 (by omega) s0 s1 e0 e1).mono ?_
  rintro e w3 ⟨rfl, rfl⟩
  rw [Hs.out, He.out]
  obtain ⟨T, hT⟩ : ∃ T, T = sN + n5 + (n0 - eN) := ⟨_, rfl⟩
  have HT := Lib.hid hT
  have hT1 : T ≤ 1048576 := by omega
  have q1 : ((T : Int) != (sN : Int) + (n5 : Int) + ((n0 : Int) - (eN : Int))) = false := by simp; omega
  have q2 : (sN : Int) ≤ (eN : Int) := by omega
  have q3 : (eN : Int) ≤ (n0 : Int) := by omega
  clear hT
  go_wp2_with fail
  refine (ZZSetSliceInts_any v n0 vc z st en b1 b2 u n5 uc y sN eN T w2 (by omega) (by omega) RV.out RU.out s0 s1 e0 e1 Hs.out He.out HT.out hT1).mono ?_
  rintro e w3 ⟨a1, c1, a2, c2, bn, a3, c3, rfl, h1, h2, h3, hk3⟩
  have HX := Lib.hid (And.intro h1 (And.intro h2 h3))
  have KF := Lib.hid (K2.out.trans hk3)
  have RV3 := Lib.hid (RV.out.kept hk3)
  have RU3 := Lib.hid (RU.out.kept hk3)
  clear h1 h2 h3 hk3
  go_wp2_with fail
  go_loopw [22] (fun t wr => ∃ k r : Nat, k ≤ n0 ∧ t = .int .i64 k ∧ wr = w3.drewN r) (fun t _ => n0 - (intOf t).toNat)
  case atStart => exact ⟨0, 0, Nat.zero_le _, rfl, rfl⟩
  case round =>
    obtain ⟨k, r, hk, rfl, rfl⟩ := hrel
    by_cases hlt : k < n0
    · obtain ⟨xb, xo, rfl, hx⟩ := HX.out.2.2.at hlt
      obtain ⟨yb, yo, rfl, hy⟩ := RV3.out.at hlt
      have q4 : (0 : Int) ≤ (k : Int) := by omega
      have q5 : (k : Int) < (n0 : Int) := by omega
      have q6 : (z k != z k) = false := by simp
      go_wp2_with fail
      go_quiet (fail)
      go_wp2
      go_roundw
      case rel => exact ⟨k + 1, _, by omega, by go_num, rfl⟩
      case measure => simp [intOf]; omega
    · have q7 : (n0 : Int) ≤ (k : Int) := by omega
      have hkd := kept_drewN w3 r
      have HX2 := Lib.hid (And.intro (HX.out.1.kept hkd) (HX.out.2.1.kept hkd))
      have RV4 := Lib.hid (RV3.out.kept hkd)
      have RU4 := Lib.hid (RU3.out.kept hkd)
      have KF2 := Lib.hid (KF.out.trans hkd)
      clear hkd HX RV3 RU3 KF
      go_wp2_with fail
      clear hlt hk q7
      revert HX2 RV4 RU4 KF2
      generalize w3.drewN r = Y
      intro HX2 RV4 RU4 KF2
      go_loopw [23] (fun t wr => ∃ j r : Nat, j ≤ T ∧ t = .int .i64 j ∧ wr = Y.drewN r) (fun t _ => T - (intOf t).toNat)
      case atStart => exact ⟨0, 0, Nat.zero_le _, rfl, rfl⟩
      case round =>
        obtain ⟨j, r, hj, rfl, rfl⟩ := hrel
        by_cases hlt : j < T
        · obtain ⟨xb, xo, rfl, hx⟩ := HX2.out.1.at hlt
          obtain ⟨pb, po, rfl, hp⟩ := HX2.out.2.at hlt
          have q4 : (0 : Int) ≤ (j : Int) := by omega
          have q5 : (j : Int) < (T : Int) := by omega
          by_cases ck : j < sN
          · have ez : rz sN n5 eN z y j = z j := by unfold rz; rw [if_pos ck]
            rw [ez] at hx
            obtain ⟨yb, yo, rfl, hy⟩ := RV4.out.at (show j < n0 by omega)
            have t1 : (j : Int) < (sN : Int) := by omega
            have t2 : (j : Int) < (n0 : Int) := by omega
            have q9 : (z j != z j) = false := by simp
            clear ez ck
            go_wp2
            go_roundw
            case rel => exact ⟨j + 1, _, by omega, by go_num, rfl⟩
            case measure => simp [intOf]; omega
          · by_cases cu : j < sN + n5
            · obtain ⟨P, hP⟩ : ∃ P, P = j - sN := ⟨_, rfl⟩
              have ez : rz sN n5 eN z y j = y P := by unfold rz; rw [if_neg ck, if_pos cu, hP]
              rw [ez] at hx
              obtain ⟨yb, yo, rfl, hy⟩ := RU4.out.at (show P < n5 by omega)
              have t1 : (sN : Int) ≤ (j : Int) := by omega
              have t2 : (j : Int) < (sN : Int) + (n5 : Int) := by omega
              have t3 : (j : Int) - (sN : Int) = (P : Int) := by omega
              have t4 : (P : Int) < (n5 : Int) := by omega
              have t5 : (0 : Int) ≤ (P : Int) := by omega
              have q9 : (y P != y P) = false := by simp
              clear ez ck cu hP
              go_wp2
              go_roundw
              case rel => exact ⟨j + 1, _, by omega, by go_num, rfl⟩
              case measure => simp [intOf]; omega
            · obtain ⟨P, hP⟩ : ∃ P, P = eN + (j - sN - n5) := ⟨_, rfl⟩
              have ez : rz sN n5 eN z y j = z P := by unfold rz; rw [if_neg ck, if_neg cu, hP]
              rw [ez] at hx
              have hTo := HT.out
              obtain ⟨yb, yo, rfl, hy⟩ := RV4.out.at (show P < n0 by omega)
              have t1 : (sN : Int) ≤ (j : Int) := by omega
              have t2 : (sN : Int) + (n5 : Int) ≤ (j : Int) := by omega
              have t3 : (eN : Int) + ((j : Int) - (sN : Int) - (n5 : Int)) = (P : Int) := by omega
              have t4 : (P : Int) < (n0 : Int) := by omega
              have t5 : (0 : Int) ≤ (P : Int) := by omega
              have q9 : (z P != z P) = false := by simp
              clear ez ck cu hP hTo
              go_wp2
              go_roundw
              case rel => exact ⟨j + 1, _, by omega, by go_num, rfl⟩
              case measure => simp [intOf]; omega
        · have q6 : (T : Int) ≤ (j : Int) := by omega
          go_wp2
          go_ret
          exact ⟨rfl, KF2.out.trans (kept_drewN _ _)⟩
end Go.Proofs.YtdlmdmpkjhnbmaaGreatDoor
