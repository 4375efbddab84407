/- The walk of FnFuncSliceCaseTable: the pieces; the law. -/
import Derived.Test.YticjhbklcpoonaaGreatDoorCtb
import Derived.Deep.DeepCutAuto
namespace Go.Proofs.YticjhbklcpoonaaGreatDoor
open Go.RowKit Go.Gq
set_option maxRecDepth 100000
set_option maxHeartbeats 8000000 in
theorem ct_str (str : ByteArray) (a0 : Option Addr) (n0 c0 : Nat) (z : Nat → Int) (ek e : Int) (ef : Nat) (sk s : Int) (sf : Nat) (w : World) (H0 : Hid (Rd w a0 n0 (fun t => .int .i64 (z t)))) (g3 : str.size ≤ 1048576) (g4 : n0 ≤ 131072) (g2 : (str.size : Int) + 8 * (n0 : Int) ≤ 1048576) (ke0 : 0 ≤ ek) (ke7 : ek ≤ 7) (ks0 : 0 ≤ sk) (ks7 : sk ≤ 7) (e0 : -9223372036854775808 ≤ e) (e1 : e ≤ 9223372036854775807) (s0 : -9223372036854775808 ≤ s) (s1 : s ≤ 9223372036854775807) (he : ek = 0 ∨ ek = 1 ∨ ek = 3) (hs : sk = 0 ∨ sk = 1 ∨ sk = 3) :
    Calls Tryz.prog 9 #[.int .i64 1, .string str, .slice a0 n0 c0, .int .i64 ek, .int .i64 e, .float .f64 ef, .int .i64 sk, .int .i64 s, .float .f64 sf] w (TrueKept w) := by
  obtain ⟨xs, S, T, bs, vs, oxs, simS⟩ := okx_start sk s sf str hs s0 s1
  obtain ⟨xe, E, U, be, ve, oxe, simE⟩ := okx_end ek e ef str he e0 e1
  have nzs := oxs.nz
  have nze := oxe.nz
  have OS := Lib.hid oxs
  have OE := Lib.hid oxe
  have CE := Lib.hid (nonNum_any ek false (by simp; omega))
  have CS := Lib.hid (nonNum_any sk false (by simp; omega))
  have r0 := rcnt_le str
  have eS := simS (rcnt str) (by omega)
  have hst := stO_le (rcnt str) T
  have eE := simE (rcnt str) (stO (rcnt str) T) (by omega) hst
  have SI := Lib.hid (And.intro eS eE)
  clear oxs oxe simS simE eS eE he hs
  go_enter Tryz.func9, Tryz.ntmps9
  go_wp2_with fail
  refine (bytes_ct 1 str a0 n0 c0 ek e ef sk s sf w (by omega) (by omega)).mono ?_
  rintro e' w1 ⟨b, rfl, rfl⟩
  cases b with
  | false =>
    go_wp2
    go_ret
    exact ⟨rfl, Below.refl _ _⟩
  | true =>
  go_wp2_with fail
  refine (clone_any a0 n0 c0 z w (by omega) H0.out).mono ?_
  rintro e' w1 ⟨a1, c1, rfl, hr1, hk1⟩
  have R1 := Lib.hid hr1
  have K1 := Lib.hid hk1
  clear hr1 hk1 H0
  go_wp2_with fail
  refine (ZZ_str str (.slice a1 n0 c1) xs xe ek e sk s ef sf S E OE.out.idx OS.out.idx OS.out.ix OE.out.ix w1 g3).mono ?_
  rintro e' w2 ⟨rfl, hk2⟩
  have K2 := Lib.hid (K1.out.trans hk2)
  rw [SI.out.1, SI.out.2]
  clear hk2 K1 R1
  obtain ⟨st, est⟩ : ∃ st, st = stO (rcnt str) T := ⟨_, rfl⟩
  rw [← est]
  obtain ⟨en, een⟩ : ∃ en, en = enO (rcnt str) st U := ⟨_, rfl⟩
  rw [← een]
  have HST := Lib.hid (And.intro est een)
  have hle := enO_bd (rcnt str) st U (by omega)
  rw [← een] at hle
  have HLE := Lib.hid hle
  obtain ⟨r, hr⟩ : ∃ r, r = str.extract (rpos str st) (rpos str en) := ⟨_, rfl⟩
  rw [← hr]
  have HRR := Lib.hid hr
  clear est een hle hr
  go_wp2_with fail
  refine (CE.out w2).mono ?_
  rintro e' w3 ⟨rfl, rfl⟩
  go_wp2_with fail
  refine (CS.out w2).mono ?_
  rintro e' w3 ⟨rfl, rfl⟩
  go_upto_if 109 with fail
  go_cut [22] (fun s22 wx => s22 = .int .i64 vs ∧ wx = w2)
  case first =>
    have his := OS.out.is
    rcases his with ⟨h1, h2⟩ | ⟨h1, h2⟩ | ⟨h1, h2⟩
    · have q1 : (sk == 1) = false := by rw [h1]; rfl
      have q3 : (sk == 3) = false := by rw [h1]; rfl
      have H2 := Lib.hid h2
      clear h1 h2
      go_wp2_with fail
      go_meet
      exact ⟨by rw [H2.out], rfl⟩
    · have q1 : (sk == 1) = true := by rw [h1]; rfl
      have H2 := Lib.hid h2
      clear h1 h2
      go_wp2_with fail
      go_meet
      exact ⟨by rw [H2.out], rfl⟩
    · have q1 : (sk == 1) = false := by rw [h1]; rfl
      have q3 : (sk == 3) = true := by rw [h1]; rfl
      have H2 := Lib.hid h2
      clear h1 h2
      go_wp2_with fail
      refine (H2.out _).mono ?_
      rintro e' w3 ⟨rfl, rfl⟩
      go_wp2_with fail
      go_meet
      exact ⟨rfl, rfl⟩
  case rest =>
  obtain ⟨rfl, rfl⟩ := hcut
  go_upto_if 116 with fail
  rename World => Z2
  go_cut [23] (fun s23 wx => s23 = .int .i64 ve ∧ wx = Z2)
  case first =>
    have his := OE.out.is
    rcases his with ⟨h1, h2⟩ | ⟨h1, h2⟩ | ⟨h1, h2⟩
    · have q1 : (ek == 1) = false := by rw [h1]; rfl
      have q3 : (ek == 3) = false := by rw [h1]; rfl
      have H2 := Lib.hid h2
      clear h1 h2
      go_wp2_with fail
      go_meet
      exact ⟨by rw [H2.out], rfl⟩
    · have q1 : (ek == 1) = true := by rw [h1]; rfl
      have H2 := Lib.hid h2
      clear h1 h2
      go_wp2_with fail
      go_meet
      exact ⟨by rw [H2.out], rfl⟩
    · have q1 : (ek == 1) = false := by rw [h1]; rfl
      have q3 : (ek == 3) = true := by rw [h1]; rfl
      have H2 := Lib.hid h2
      clear h1 h2
      go_wp2_with fail
      refine (H2.out _).mono ?_
      rintro e' w3 ⟨rfl, rfl⟩
      go_wp2_with fail
      go_meet
      exact ⟨rfl, rfl⟩
  case rest =>
  obtain ⟨rfl, rfl⟩ := hcut
  rename World => Z3
  go_wp2_with fail
  refine (pickRunes_any str T U bs be vs ve OS.out.bd OE.out.bd _ g3).mono ?_
  rintro e' w5 ⟨a5, c5, rfl, hr5, hk5⟩
  rw [← HST.out.1, ← HST.out.2] at hr5
  rw [← HST.out.1, ← HST.out.2]
  have K5 := Lib.hid (K2.out.trans hk5)
  have l1 := rpos_le_of str HLE.out.1
  have l2 := rpos_le str en
  obtain ⟨M, hM⟩ : ∃ M, M = rpos str en - rpos str st := ⟨_, rfl⟩
  have hsz : r.size = M := by rw [HRR.out, ByteArray.size_extract]; omega
  rw [← hM] at hr5 ⊢
  have hr6 := hr5.congr (g := fun i => .int .u8 (bt r i : Int)) (fun i hi => by rw [HRR.out, bt_extract str _ _ i (by omega) l2])
  have R5 := Lib.hid hr6
  have HSZ := Lib.hid hsz
  have m1 : M ≤ 1048576 := by omega
  clear hr5 hr6 hk5 l1 l2 hM hsz
  go_wp2_with fail
  refine (eqStr_any r a5 M c5 w5 m1 HSZ.out R5.out).mono ?_
  rintro e' w6 ⟨rfl, hk6⟩
  have K6 := Lib.hid (K5.out.trans hk6)
  clear hk6
  go_wp2
  go_ret
  exact ⟨rfl, K6.out⟩
set_option maxHeartbeats 8000000 in
theorem ct_arr (str : ByteArray) (a0 : Option Addr) (n0 c0 : Nat) (z : Nat → Int) (ek e : Int) (ef : Nat) (sk s : Int) (sf : Nat) (w : World) (H0 : Hid (Rd w a0 n0 (fun t => .int .i64 (z t)))) (g3 : str.size ≤ 1048576) (g4 : n0 ≤ 131072) (g2 : (str.size : Int) + 8 * (n0 : Int) ≤ 1048576) (ke0 : 0 ≤ ek) (ke7 : ek ≤ 7) (ks0 : 0 ≤ sk) (ks7 : sk ≤ 7) (e0 : -9223372036854775808 ≤ e) (e1 : e ≤ 9223372036854775807) (s0 : -9223372036854775808 ≤ s) (s1 : s ≤ 9223372036854775807) (he : ek = 0 ∨ ek = 1 ∨ ek = 3) (hs : sk = 0 ∨ sk = 1 ∨ sk = 3) :
    Calls Tryz.prog 9 #[.int .i64 2, .string str, .slice a0 n0 c0, .int .i64 ek, .int .i64 e, .float .f64 ef, .int .i64 sk, .int .i64 s, .float .f64 sf] w (TrueKept w) := by
  obtain ⟨xs, S, T, bs, vs, oxs, simS⟩ := okx_start sk s sf str hs s0 s1
  obtain ⟨xe, E, U, be, ve, oxe, simE⟩ := okx_end ek e ef str he e0 e1
  have nzs := oxs.nz
  have nze := oxe.nz
  have OS := Lib.hid oxs
  have OE := Lib.hid oxe
  have CE := Lib.hid (nonNum_any ek false (by simp; omega))
  have CS := Lib.hid (nonNum_any sk false (by simp; omega))
  have r0 := rcnt_le str
  have eS := simS n0 (by omega)
  have hst := stO_le n0 T
  have eE := simE n0 (stO n0 T) (by omega) hst
  have SI := Lib.hid (And.intro eS eE)
  clear oxs oxe simS simE eS eE he hs
  go_enter Tryz.func9, Tryz.ntmps9
  go_wp2_with fail
  refine (bytes_ct 2 str a0 n0 c0 ek e ef sk s sf w (by omega) (by omega)).mono ?_
  rintro e' w1 ⟨b, rfl, rfl⟩
  cases b with
  | false =>
    go_wp2
    go_ret
    exact ⟨rfl, Below.refl _ _⟩
  | true =>
  go_wp2_with fail
  refine (clone_any a0 n0 c0 z w (by omega) H0.out).mono ?_
  rintro e' w1 ⟨a1, c1, rfl, hr1, hk1⟩
  have R1 := Lib.hid hr1
  have K1 := Lib.hid hk1
  clear hr1 hk1 H0
  go_wp2_with fail
  refine (ZZ_arr str a1 n0 c1 z xs xe ek e sk s ef sf S E OE.out.idx OS.out.idx OS.out.ix OE.out.ix w1 (by omega) R1.out).mono ?_
  rintro e' w2 ⟨a2, c2, rfl, hr2, hk2⟩
  have K2 := Lib.hid (K1.out.trans hk2)
  have R2 := Lib.hid (R1.out.kept hk2)
  rw [SI.out.1, SI.out.2] at hr2
  rw [SI.out.1, SI.out.2]
  obtain ⟨st, est⟩ : ∃ st, st = stO n0 T := ⟨_, rfl⟩
  rw [← est] at hr2 ⊢
  obtain ⟨en, een⟩ : ∃ en, en = enO n0 st U := ⟨_, rfl⟩
  rw [← een] at hr2 ⊢
  have HST := Lib.hid (And.intro est een)
  have hle := enO_bd n0 st U (by omega)
  rw [← een] at hle
  obtain ⟨M, hM⟩ : ∃ M, M = en - st := ⟨_, rfl⟩
  rw [← hM] at hr2 ⊢
  have HM := Lib.hid hM
  have m1 : M ≤ 1048576 := by omega
  have RO := Lib.hid hr2
  clear hk2 K1 R1 est een hle hM hr2
  go_wp2_with fail
  refine (CE.out w2).mono ?_
  rintro e' w3 ⟨rfl, rfl⟩
  go_wp2_with fail
  refine (CS.out w2).mono ?_
  rintro e' w3 ⟨rfl, rfl⟩
  go_upto_if 109 with fail
  go_cut [22] (fun s22 wx => s22 = .int .i64 vs ∧ wx = w2)
  case first =>
    have his := OS.out.is
    rcases his with ⟨h1, h2⟩ | ⟨h1, h2⟩ | ⟨h1, h2⟩
    · have q1 : (sk == 1) = false := by rw [h1]; rfl
      have q3 : (sk == 3) = false := by rw [h1]; rfl
      have H2 := Lib.hid h2
      clear h1 h2
      go_wp2_with fail
      go_meet
      exact ⟨by rw [H2.out], rfl⟩
    · have q1 : (sk == 1) = true := by rw [h1]; rfl
      have H2 := Lib.hid h2
      clear h1 h2
      go_wp2_with fail
      go_meet
      exact ⟨by rw [H2.out], rfl⟩
    · have q1 : (sk == 1) = false := by rw [h1]; rfl
      have q3 : (sk == 3) = true := by rw [h1]; rfl
      have H2 := Lib.hid h2
      clear h1 h2
      go_wp2_with fail
      refine (H2.out _).mono ?_
      rintro e' w3 ⟨rfl, rfl⟩
      go_wp2_with fail
      go_meet
      exact ⟨rfl, rfl⟩
  case rest =>
  obtain ⟨rfl, rfl⟩ := hcut
  go_upto_if 116 with fail
  rename World => Z2
  go_cut [23] (fun s23 wx => s23 = .int .i64 ve ∧ wx = Z2)
  case first =>
    have his := OE.out.is
    rcases his with ⟨h1, h2⟩ | ⟨h1, h2⟩ | ⟨h1, h2⟩
    · have q1 : (ek == 1) = false := by rw [h1]; rfl
      have q3 : (ek == 3) = false := by rw [h1]; rfl
      have H2 := Lib.hid h2
      clear h1 h2
      go_wp2_with fail
      go_meet
      exact ⟨by rw [H2.out], rfl⟩
    · have q1 : (ek == 1) = true := by rw [h1]; rfl
      have H2 := Lib.hid h2
      clear h1 h2
      go_wp2_with fail
      go_meet
      exact ⟨by rw [H2.out], rfl⟩
    · have q1 : (ek == 1) = false := by rw [h1]; rfl
      have q3 : (ek == 3) = true := by rw [h1]; rfl
      have H2 := Lib.hid h2
      clear h1 h2
      go_wp2_with fail
      refine (H2.out _).mono ?_
      rintro e' w3 ⟨rfl, rfl⟩
      go_wp2_with fail
      go_meet
      exact ⟨rfl, rfl⟩
  case rest =>
  obtain ⟨rfl, rfl⟩ := hcut
  rename World => Z3
  go_wp2_with fail
  refine (pickInts_any a1 n0 c1 z T U bs be vs ve OS.out.bd OE.out.bd _ (by omega) R2.out).mono ?_
  rintro e' w5 ⟨a5, c5, rfl, hr5, hk5⟩
  rw [← HST.out.1, ← HST.out.2, ← HM.out] at hr5
  rw [← HST.out.1, ← HST.out.2, ← HM.out]
  have K5 := Lib.hid (K2.out.trans hk5)
  have RO5 := Lib.hid (RO.out.kept hk5)
  have R5 := Lib.hid hr5
  clear hr5 hk5
  go_wp2_with fail
  refine (eqInts_any a2 a5 M c2 c5 (fun t => z (st + t)) w5 m1 RO5.out R5.out).mono ?_
  rintro e' w6 ⟨rfl, hk6⟩
  have K6 := Lib.hid (K5.out.trans hk6)
  clear hk6
  go_wp2
  go_ret
  exact ⟨rfl, K6.out⟩
set_option maxHeartbeats 8000000 in
theorem FnFuncSliceCaseTable_walk (k : Int) (str : ByteArray) (a0 : Option Addr) (n0 c0 : Nat) (z : Nat → Int) (ek e : Int) (ef : Nat) (sk s : Int) (sf : Nat) (w : World) (hs : str.size ≤ 9223372036854775807) (h0 : Rd w a0 n0 (fun t => .int .i64 (z t))) (m0 : n0 ≤ 9223372036854775807) (e0 : -9223372036854775808 ≤ e) (e1 : e ≤ 9223372036854775807) (s0 : -9223372036854775808 ≤ s) (s1 : s ≤ 9223372036854775807) :
    Calls Tryz.prog 9 #[.int .i64 k, .string str, .slice a0 n0 c0, .int .i64 ek, .int .i64 e, .float .f64 ef, .int .i64 sk, .int .i64 s, .float .f64 sf] w (TrueKept w) := by
  by_cases hg : str.size ≤ 1048576 ∧ n0 ≤ 131072 ∧ (str.size : Int) + 8 * (n0 : Int) ≤ 1048576 ∧ 0 ≤ k ∧ k ≤ 7 ∧ 0 ≤ ek ∧ ek ≤ 7 ∧ 0 ≤ sk ∧ sk ≤ 7
  · obtain ⟨g3, g4, g2, k0, k7, ke0, ke7, ks0, ks7⟩ := hg
    by_cases hk0 : k = 0
    · subst hk0; exact ct_nil str a0 n0 c0 z ek e ef sk s sf w (Lib.hid h0) g3 g4 g2 ke0 ke7 ks0 ks7 e0 e1 s0 s1
    by_cases hk3 : 3 ≤ k
    · exact ct_other k ⟨hk3, k7⟩ str a0 n0 c0 z ek e ef sk s sf w (Lib.hid h0) g3 g4 g2 ke0 ke7 ks0 ks7 e0 e1 s0 s1
    have hk : k = 1 ∨ k = 2 := by omega
    by_cases hbs : sk = 2 ∨ (4 ≤ sk ∧ sk ≤ 7)
    · rcases hk with rfl | rfl
      · exact ct_bad_str_s str a0 n0 c0 z ek e ef sk s sf w (Lib.hid h0) g3 g4 g2 ke0 ke7 ks0 ks7 e0 e1 s0 s1 hbs
      · exact ct_bad_arr_s str a0 n0 c0 z ek e ef sk s sf w (Lib.hid h0) g3 g4 g2 ke0 ke7 ks0 ks7 e0 e1 s0 s1 hbs
    have hos : sk = 0 ∨ sk = 1 ∨ sk = 3 := by omega
    by_cases hbe : ek = 2 ∨ (4 ≤ ek ∧ ek ≤ 7)
    · rcases hk with rfl | rfl
      · exact ct_bad_str_e str a0 n0 c0 z ek e ef sk s sf w (Lib.hid h0) g3 g4 g2 ke0 ke7 ks0 ks7 e0 e1 s0 s1 hbe hos
      · exact ct_bad_arr_e str a0 n0 c0 z ek e ef sk s sf w (Lib.hid h0) g3 g4 g2 ke0 ke7 ks0 ks7 e0 e1 s0 s1 hbe hos
    have hoe : ek = 0 ∨ ek = 1 ∨ ek = 3 := by omega
    rcases hk with rfl | rfl
    · exact ct_str str a0 n0 c0 z ek e ef sk s sf w (Lib.hid h0) g3 g4 g2 ke0 ke7 ks0 ks7 e0 e1 s0 s1 hoe hos
    · exact ct_arr str a0 n0 c0 z ek e ef sk s sf w (Lib.hid h0) g3 g4 g2 ke0 ke7 ks0 ks7 e0 e1 s0 s1 hoe hos
  have HG := Lib.hid hg
  clear h0 hg
  go_enter Tryz.func9, Tryz.ntmps9
  go_wp2_with fail
  refine (bytes_ct k str a0 n0 c0 ek e ef sk s sf w hs m0).mono ?_
  rintro e' w1 ⟨b, rfl, rfl⟩
  cases b with
  | false =>
    go_wp2
    go_ret
    exact ⟨rfl, Below.refl _ _⟩
  | true =>
  by_cases g0 : 1048576 < str.size
  · go_wp2
    go_ret
    exact ⟨rfl, Below.refl _ _⟩
  by_cases g1 : 131072 < n0
  · go_wp2
    go_ret
    exact ⟨rfl, Below.refl _ _⟩
  by_cases g2 : (1048576 : Int) < (str.size : Int) + 8 * (n0 : Int)
  · go_wp2
    go_ret
    exact ⟨rfl, Below.refl _ _⟩
  by_cases gk : k < 0
  · go_wp2
    go_ret
    exact ⟨rfl, Below.refl _ _⟩
  by_cases hk : 7 < k
  · go_wp2
    go_ret
    exact ⟨rfl, Below.refl _ _⟩
  by_cases gek : ek < 0
  · go_wp2
    go_ret
    exact ⟨rfl, Below.refl _ _⟩
  by_cases hek : 7 < ek
  · go_wp2
    go_ret
    exact ⟨rfl, Below.refl _ _⟩
  by_cases gsk : sk < 0
  · go_wp2
    go_ret
    exact ⟨rfl, Below.refl _ _⟩
  by_cases hsk : 7 < sk
  · go_wp2
    go_ret
    exact ⟨rfl, Below.refl _ _⟩
  exact absurd (by omega) HG.out
end Go.Proofs.YticjhbklcpoonaaGreatDoor
