/- The walk of FnFuncSliceComposes. -/
import Derived.Test.YticjhbklcpoonaaGreatDoorZzf
namespace Go.Proofs.YticjhbklcpoonaaGreatDoor
open Go.RowKit Go.Gq
set_option maxRecDepth 100000
theorem cl_nn (i lo hi : Int) (h : 0 ≤ i) (hl : lo ≤ hi) : cl i lo hi = max lo (min i hi) := by
  unfold cl
  rw [if_neg (by omega)]
  repeat' split
  all_goals omega
theorem stO_nn (n : Nat) (i : Int) (h : 0 ≤ i) : stO n (some i) = min i.toNat n := by
  simp only [stO]; rw [cl_nn i 0 n h (by omega)]; omega
theorem enO_nn (n st : Nat) (i : Int) (h : 0 ≤ i) (hs : st ≤ n) : enO n st (some i) = max st (min i.toNat n) := by
  simp only [enO]; rw [cl_nn i st n h (by omega)]; omega
/-- A piece of a piece. -/
theorem comp_nat (n : Nat) (a b c d e : Int) (ha : 0 ≤ a) (hb : 0 ≤ b) (hc : 0 ≤ c) (hd : 0 ≤ d) (he : e = if a + d < b then a + d else b) :
    ∃ st1 en1 st2 en2 st3 en3, stO n (some a) = st1 ∧ enO n st1 (some b) = en1 ∧ stO (en1 - st1) (some c) = st2 ∧ enO (en1 - st1) st2 (some d) = en2 ∧ stO n (some (a + c)) = st3 ∧ enO n st3 (some e) = en3 ∧ st1 ≤ en1 ∧ en1 ≤ n ∧ st2 ≤ en2 ∧ en2 ≤ en1 - st1 ∧ st3 ≤ en3 ∧ en3 ≤ n ∧ en2 - st2 = en3 - st3 ∧ (en2 - st2 ≠ 0 → st1 + st2 = st3 ∧ st1 + en2 = en3) := by
  refine ⟨_, _, _, _, _, _, rfl, rfl, rfl, rfl, rfl, rfl, ?_⟩
  have he0 : 0 ≤ e := by rw [he]; split <;> omega
  have h1 := stO_le n (some a)
  have h2 := stO_le n (some (a + c))
  have h3 := stO_le (enO n (stO n (some a)) (some b) - stO n (some a)) (some c)
  rw [enO_nn _ _ _ hb h1, enO_nn _ _ _ he0 h2] at *
  rw [enO_nn _ _ _ hd h3]
  rw [stO_nn _ _ ha, stO_nn _ _ hc, stO_nn _ _ (show 0 ≤ a + c by omega)] at *
  have he' : e.toNat = min (a.toNat + d.toNat) b.toNat := by rw [he]; split <;> omega
  have e1 : (a + c).toNat = a.toNat + c.toNat := by omega
  rw [he', e1] at *
  generalize a.toNat = A at *
  generalize b.toNat = B at *
  generalize c.toNat = C at *
  generalize d.toNat = D at *
  clear he he' e1 ha hb hc hd he0
  omega
theorem extract_self (s : ByteArray) (a : Nat) : s.extract a a = ⟨#[]⟩ := by
  apply ByteArray.ext
  rw [ByteArray.data_extract]
  simp
  omega
theorem extract_twice (s : ByteArray) (a b c d : Nat) (h : a + d ≤ b) : (s.extract a b).extract c d = s.extract (a + c) (a + d) := by
  apply ByteArray.ext
  simp only [ByteArray.data_extract, Array.extract_extract]
  congr 1
  omega
theorem comp_str (v : ByteArray) (st1 en1 st2 en2 st3 en3 : Nat) (h1 : st1 ≤ en1) (h2 : en1 ≤ rcnt v) (h3 : st2 ≤ en2) (h4 : en2 ≤ en1 - st1) (h5 : st3 ≤ en3) (h6 : en2 - st2 = en3 - st3) (h7 : en2 - st2 ≠ 0 → st1 + st2 = st3 ∧ st1 + en2 = en3) :
    (v.extract (rpos v st1) (rpos v en1)).extract (rpos (v.extract (rpos v st1) (rpos v en1)) st2) (rpos (v.extract (rpos v st1) (rpos v en1)) en2) = v.extract (rpos v st3) (rpos v en3) := by
  by_cases e : en2 - st2 = 0
  · obtain rfl : en2 = st2 := by omega
    obtain rfl : en3 = st3 := by omega
    rw [extract_self, extract_self]
  · obtain ⟨rfl, rfl⟩ := h7 e
    have m1 := rpos_le_of v (show st1 ≤ st1 + st2 by omega)
    have m2 := rpos_le_of v (show st1 ≤ st1 + en2 by omega)
    have m3 := rpos_le_of v (show st1 + en2 ≤ en1 by omega)
    rw [rpos_extract v st1 en1 h1 h2 st2 (by omega), rpos_extract v st1 en1 h1 h2 en2 (by omega), extract_twice _ _ _ _ _ (by omega), show rpos v st1 + (rpos v (st1 + st2) - rpos v st1) = rpos v (st1 + st2) by omega, show rpos v st1 + (rpos v (st1 + en2) - rpos v st1) = rpos v (st1 + en2) by omega]
set_option maxHeartbeats 1000000 in
theorem eqInts_any (a b : Option Addr) (n c d : Nat) (z : Nat → Int) (w : World) (hn : n ≤ 1048576) (ha : Rd w a n (fun i => .int .i64 (z i))) (hb : Rd w b n (fun i => .int .i64 (z i))) :
    Calls Tryz.prog 29 #[.slice a n c, .slice b n d] w (TrueKept w) := by
  have HA := Lib.hid ha
  have HB := Lib.hid hb
  clear ha hb
  go_enter Tryz.func29, Tryz.ntmps29
  go_wp2
  go_loopw [5] (fun t wr => ∃ k r : Nat, k ≤ n ∧ t = .int .i64 k ∧ wr = w.drewN r) (fun t _ => n - (intOf t).toNat)
  case atStart => exact ⟨0, 0, Nat.zero_le _, rfl, rfl⟩
  case round =>
    obtain ⟨k, r, hk, rfl, rfl⟩ := hrel
    by_cases hlt : k < n
    · obtain ⟨b1, o1, e1, c1⟩ := HA.out.at hlt
      obtain ⟨b2, o2, e2, c2⟩ := HB.out.at hlt
      subst e1 e2
      have q7 : (0 : Int) ≤ (k : Int) := by omega
      have q8 : (k : Int) < (n : Int) := by omega
      have q9 : (z k != z k) = false := by simp
      go_wp2_with fail
      go_quiet (fail)
      go_wp2
      go_roundw
      case rel => exact ⟨k + 1, _, by omega, by go_num, rfl⟩
      case measure => simp [intOf]; omega
    · have q6 : (n : Int) ≤ (k : Int) := by omega
      go_wp2
      go_ret
      exact ⟨rfl, kept_drewN _ _⟩
theorem bytes_cmp (i : Bool) (s : ByteArray) (a : Option Addr) (n c : Nat) (x1 x2 x3 x4 : Int) (w : World) (hs : s.size ≤ 9223372036854775807) (hn : n ≤ 9223372036854775807) :
    Calls Tryz.prog 26 #[.bool i, .string s, .slice a n c, .int .i64 x1, .int .i64 x2, .int .i64 x3, .int .i64 x4] w fun e w' => ∃ b, e = .returned (.bool b) ∧ w = w' := by
  by_cases h1 : 1048576 < s.size
  · go_enter Tryz.func26, Tryz.ntmps26
    go_wp2
    go_ret
    exact ⟨_, rfl, rfl⟩
  by_cases h2 : 1048576 < n
  · go_enter Tryz.func26, Tryz.ntmps26
    go_wp2
    go_ret
    exact ⟨_, rfl, rfl⟩
  by_cases h3 : 1048576 < s.size + n
  · have h4 : (1048576 : Int) < (s.size : Int) + (n : Int) := by omega
    go_enter Tryz.func26, Tryz.ntmps26
    go_wp2
    go_ret
    exact ⟨_, rfl, rfl⟩
  · have h4 : (s.size : Int) + (n : Int) ≤ (1048576 : Int) := by omega
    go_enter Tryz.func26, Tryz.ntmps26
    go_wp2
    go_ret
    exact ⟨_, rfl, rfl⟩
set_option maxHeartbeats 4000000 in
theorem cmp_s_y (str : ByteArray) (a0 : Option Addr) (n0 c0 : Nat) (z : Nat → Int) (a b c d : Int) (w : World) (H0 : Hid (Rd w a0 n0 (fun t => .int .i64 (z t)))) (g3 : str.size ≤ 1048576) (g4 : n0 ≤ 131072) (g2 : (str.size : Int) + 8 * (n0 : Int) ≤ 1048576)
    (a0' : 0 ≤ a) (b0' : 0 ≤ b) (c0' : 0 ≤ c) (d0' : 0 ≤ d) (a1' : a ≤ 536870912) (b1' : b ≤ 536870912) (c1' : c ≤ 536870912) (d1' : d ≤ 536870912) (hlt : a + d < b) :
    Calls Tryz.prog 6 #[.bool true, .string str, .slice a0 n0 c0, .int .i64 a, .int .i64 b, .int .i64 c, .int .i64 d] w (TrueKept w) := by
  obtain ⟨st1, en1, st2, en2, st3, en3, q1, q2, q3, q4, q5, q6, o1, o2, o3, o4, o5, o6, o7, o8⟩ := comp_nat (rcnt str) a b c d (a + d) a0' b0' c0' d0' (by rw [if_pos hlt])
  have HQ := Lib.hid (And.intro q1 (And.intro q2 (And.intro q3 (And.intro q4 (And.intro q5 q6)))))
  have HO := Lib.hid (And.intro o1 (And.intro o2 (And.intro o3 (And.intro o4 (And.intro o5 (And.intro o6 (And.intro o7 o8)))))))
  clear q1 q2 q3 q4 q5 q6 o1 o2 o3 o4 o5 o6 o7 o8
  have n1 : (a + d) ≤ 1073741824 := by omega
  have n2 : 0 ≤ (a + d) := by omega
  go_enter Tryz.func6, Tryz.ntmps6
  go_wp2_with fail
  refine (bytes_cmp true str a0 n0 c0 a b c d w (by omega) (by omega)).mono ?_
  rintro e w1 ⟨b, rfl, rfl⟩
  cases b with
  | false =>
    go_wp2
    go_ret
    exact ⟨rfl, Below.refl _ _⟩
  | true =>
  go_wp2_with fail
  refine (clone_any a0 n0 c0 z w (by omega) H0.out).mono ?_
  rintro e w1 ⟨a1, c1, rfl, hr1, hk1⟩
  have R1 := Lib.hid hr1
  have K1 := Lib.hid hk1
  clear hr1 hk1 H0
  go_wp2_with fail
  refine (ZZ_str str (.slice a1 n0 c1) (iI a) (iI b) 1 b 1 a 0 0 (some a) (some b) (idxV_int _ _ _) (idxV_int _ _ _) (ix_int _ a (toInt_int a) (by omega) (by omega)) (ix_int _ b (toIntCeil_int b) (by omega) (by omega)) w1 g3).mono ?_
  rintro e w2 ⟨rfl, hk2⟩
  have K2 := Lib.hid (K1.out.trans hk2)
  clear hk2
  obtain ⟨q1, q2, q3, q4, q5, q6⟩ := HQ.out
  obtain ⟨o1, o2, o3, o4, o5, o6, o7, o8⟩ := HO.out
  rw [q1, q2]
  have r1 := rcnt_extract str st1 en1 o1 o2
  obtain ⟨s1, hs1⟩ : ∃ s1, s1 = str.extract (rpos str st1) (rpos str en1) := ⟨_, rfl⟩
  rw [← hs1] at r1 ⊢
  have z1 : s1.size ≤ 1048576 := by rw [hs1, ByteArray.size_extract]; omega
  have e2 : s1.extract (rpos s1 st2) (rpos s1 en2) = str.extract (rpos str st3) (rpos str en3) := by rw [hs1]; exact comp_str str st1 en1 st2 en2 st3 en3 o1 o2 o3 o4 o5 o7 o8
  have HR := Lib.hid (And.intro r1 e2)
  clear q1 q2 q3 q4 q5 q6 o1 o2 o3 o4 o5 o6 o7 o8 r1 hs1 e2
  go_wp2_with fail
  refine (ZZ_str s1 (.slice none 0 0) (iI c) (iI d) 1 d 1 c 0 0 (some c) (some d) (idxV_int _ _ _) (idxV_int _ _ _) (ix_int _ c (toInt_int c) (by omega) (by omega)) (ix_int _ d (toIntCeil_int d) (by omega) (by omega)) w2 z1).mono ?_
  rintro e w3 ⟨rfl, hk3⟩
  have K3 := Lib.hid (K2.out.trans hk3)
  clear hk3 K2
  obtain ⟨q1, q2, q3, q4, q5, q6⟩ := HQ.out
  rw [HR.out.1, q3, q4, HR.out.2]
  obtain ⟨s2, hs2⟩ : ∃ s2, s2 = str.extract (rpos str st3) (rpos str en3) := ⟨_, rfl⟩
  rw [← hs2]
  have HS := Lib.hid hs2
  clear q1 q2 q3 q4 q5 q6 hs2
  go_wp2_with fail
  refine (ZZ_str str (.slice a1 n0 c1) (iI (a + c)) (iI (a + d)) 1 (a + d) 1 (a + c) 0 0 (some (a + c)) (some (a + d)) (idxV_int _ _ _) (idxV_int _ _ _) (ix_int _ (a + c) (toInt_int (a + c)) (by omega) (by omega)) (ix_int _ (a + d) (toIntCeil_int (a + d)) (by omega) (by omega)) w3 g3).mono ?_
  rintro e w4 ⟨rfl, hk4⟩
  have K4 := Lib.hid (K3.out.trans hk4)
  clear hk4 K3
  obtain ⟨q1, q2, q3, q4, q5, q6⟩ := HQ.out
  rw [q5, q6, ← HS.out]
  clear q1 q2 q3 q4 q5 q6
  go_wp2
  go_ret
  exact ⟨by simp, K4.out⟩
set_option maxHeartbeats 4000000 in
theorem cmp_s_n (str : ByteArray) (a0 : Option Addr) (n0 c0 : Nat) (z : Nat → Int) (a b c d : Int) (w : World) (H0 : Hid (Rd w a0 n0 (fun t => .int .i64 (z t)))) (g3 : str.size ≤ 1048576) (g4 : n0 ≤ 131072) (g2 : (str.size : Int) + 8 * (n0 : Int) ≤ 1048576)
    (a0' : 0 ≤ a) (b0' : 0 ≤ b) (c0' : 0 ≤ c) (d0' : 0 ≤ d) (a1' : a ≤ 536870912) (b1' : b ≤ 536870912) (c1' : c ≤ 536870912) (d1' : d ≤ 536870912) (hlt : b ≤ a + d) :
    Calls Tryz.prog 6 #[.bool true, .string str, .slice a0 n0 c0, .int .i64 a, .int .i64 b, .int .i64 c, .int .i64 d] w (TrueKept w) := by
  obtain ⟨st1, en1, st2, en2, st3, en3, q1, q2, q3, q4, q5, q6, o1, o2, o3, o4, o5, o6, o7, o8⟩ := comp_nat (rcnt str) a b c d b a0' b0' c0' d0' (by rw [if_neg (by omega)])
  have HQ := Lib.hid (And.intro q1 (And.intro q2 (And.intro q3 (And.intro q4 (And.intro q5 q6)))))
  have HO := Lib.hid (And.intro o1 (And.intro o2 (And.intro o3 (And.intro o4 (And.intro o5 (And.intro o6 (And.intro o7 o8)))))))
  clear q1 q2 q3 q4 q5 q6 o1 o2 o3 o4 o5 o6 o7 o8
  have n1 : b ≤ 1073741824 := by omega
  have n2 : 0 ≤ b := by omega
  go_enter Tryz.func6, Tryz.ntmps6
  go_wp2_with fail
  refine (bytes_cmp true str a0 n0 c0 a b c d w (by omega) (by omega)).mono ?_
  rintro e w1 ⟨b, rfl, rfl⟩
  cases b with
  | false =>
    go_wp2
    go_ret
    exact ⟨rfl, Below.refl _ _⟩
  | true =>
  go_wp2_with fail
  refine (clone_any a0 n0 c0 z w (by omega) H0.out).mono ?_
  rintro e w1 ⟨a1, c1, rfl, hr1, hk1⟩
  have R1 := Lib.hid hr1
  have K1 := Lib.hid hk1
  clear hr1 hk1 H0
  go_wp2_with fail
  refine (ZZ_str str (.slice a1 n0 c1) (iI a) (iI b) 1 b 1 a 0 0 (some a) (some b) (idxV_int _ _ _) (idxV_int _ _ _) (ix_int _ a (toInt_int a) (by omega) (by omega)) (ix_int _ b (toIntCeil_int b) (by omega) (by omega)) w1 g3).mono ?_
  rintro e w2 ⟨rfl, hk2⟩
  have K2 := Lib.hid (K1.out.trans hk2)
  clear hk2
  obtain ⟨q1, q2, q3, q4, q5, q6⟩ := HQ.out
  obtain ⟨o1, o2, o3, o4, o5, o6, o7, o8⟩ := HO.out
  rw [q1, q2]
  have r1 := rcnt_extract str st1 en1 o1 o2
  obtain ⟨s1, hs1⟩ : ∃ s1, s1 = str.extract (rpos str st1) (rpos str en1) := ⟨_, rfl⟩
  rw [← hs1] at r1 ⊢
  have z1 : s1.size ≤ 1048576 := by rw [hs1, ByteArray.size_extract]; omega
  have e2 : s1.extract (rpos s1 st2) (rpos s1 en2) = str.extract (rpos str st3) (rpos str en3) := by rw [hs1]; exact comp_str str st1 en1 st2 en2 st3 en3 o1 o2 o3 o4 o5 o7 o8
  have HR := Lib.hid (And.intro r1 e2)
  clear q1 q2 q3 q4 q5 q6 o1 o2 o3 o4 o5 o6 o7 o8 r1 hs1 e2
  go_wp2_with fail
  refine (ZZ_str s1 (.slice none 0 0) (iI c) (iI d) 1 d 1 c 0 0 (some c) (some d) (idxV_int _ _ _) (idxV_int _ _ _) (ix_int _ c (toInt_int c) (by omega) (by omega)) (ix_int _ d (toIntCeil_int d) (by omega) (by omega)) w2 z1).mono ?_
  rintro e w3 ⟨rfl, hk3⟩
  have K3 := Lib.hid (K2.out.trans hk3)
  clear hk3 K2
  obtain ⟨q1, q2, q3, q4, q5, q6⟩ := HQ.out
  rw [HR.out.1, q3, q4, HR.out.2]
  obtain ⟨s2, hs2⟩ : ∃ s2, s2 = str.extract (rpos str st3) (rpos str en3) := ⟨_, rfl⟩
  rw [← hs2]
  have HS := Lib.hid hs2
  clear q1 q2 q3 q4 q5 q6 hs2
  go_wp2_with fail
  refine (ZZ_str str (.slice a1 n0 c1) (iI (a + c)) (iI b) 1 b 1 (a + c) 0 0 (some (a + c)) (some b) (idxV_int _ _ _) (idxV_int _ _ _) (ix_int _ (a + c) (toInt_int (a + c)) (by omega) (by omega)) (ix_int _ b (toIntCeil_int b) (by omega) (by omega)) w3 g3).mono ?_
  rintro e w4 ⟨rfl, hk4⟩
  have K4 := Lib.hid (K3.out.trans hk4)
  clear hk4 K3
  obtain ⟨q1, q2, q3, q4, q5, q6⟩ := HQ.out
  rw [q5, q6, ← HS.out]
  clear q1 q2 q3 q4 q5 q6
  go_wp2
  go_ret
  exact ⟨by simp, K4.out⟩
set_option maxHeartbeats 4000000 in
theorem cmp_a_y (str : ByteArray) (a0 : Option Addr) (n0 c0 : Nat) (z : Nat → Int) (a b c d : Int) (w : World) (H0 : Hid (Rd w a0 n0 (fun t => .int .i64 (z t)))) (g3 : str.size ≤ 1048576) (g4 : n0 ≤ 131072) (g2 : (str.size : Int) + 8 * (n0 : Int) ≤ 1048576)
    (a0' : 0 ≤ a) (b0' : 0 ≤ b) (c0' : 0 ≤ c) (d0' : 0 ≤ d) (a1' : a ≤ 536870912) (b1' : b ≤ 536870912) (c1' : c ≤ 536870912) (d1' : d ≤ 536870912) (hlt : a + d < b) :
    Calls Tryz.prog 6 #[.bool false, .string str, .slice a0 n0 c0, .int .i64 a, .int .i64 b, .int .i64 c, .int .i64 d] w (TrueKept w) := by
  obtain ⟨st1, en1, st2, en2, st3, en3, q1, q2, q3, q4, q5, q6, o1, o2, o3, o4, o5, o6, o7, o8⟩ := comp_nat n0 a b c d (a + d) a0' b0' c0' d0' (by rw [if_pos hlt])
  have HQ := Lib.hid (And.intro q1 (And.intro q2 (And.intro q3 (And.intro q4 (And.intro q5 q6)))))
  have HO := Lib.hid (And.intro o1 (And.intro o2 (And.intro o3 (And.intro o4 (And.intro o5 (And.intro o6 (And.intro o7 o8)))))))
  clear q1 q2 q3 q4 q5 q6 o1 o2 o3 o4 o5 o6 o7 o8
  have n1 : (a + d) ≤ 1073741824 := by omega
  have n2 : 0 ≤ (a + d) := by omega
  go_enter Tryz.func6, Tryz.ntmps6
  go_wp2_with fail
  refine (bytes_cmp false str a0 n0 c0 a b c d w (by omega) (by omega)).mono ?_
  rintro e w1 ⟨b, rfl, rfl⟩
  cases b with
  | false =>
    go_wp2
    go_ret
    exact ⟨rfl, Below.refl _ _⟩
  | true =>
  go_wp2_with fail
  refine (clone_any a0 n0 c0 z w (by omega) H0.out).mono ?_
  rintro e w1 ⟨a1, c1, rfl, hr1, hk1⟩
  have R1 := Lib.hid hr1
  have K1 := Lib.hid hk1
  clear hr1 hk1 H0
  go_wp2_with fail
  refine (ZZ_arr str a1 n0 c1 z (iI a) (iI b) 1 b 1 a 0 0 (some a) (some b) (idxV_int _ _ _) (idxV_int _ _ _) (ix_int _ a (toInt_int a) (by omega) (by omega)) (ix_int _ b (toIntCeil_int b) (by omega) (by omega)) w1 (by omega) R1.out).mono ?_
  rintro e w2 ⟨a2, c2, rfl, hr2, hk2⟩
  obtain ⟨q1, q2, q3, q4, q5, q6⟩ := HQ.out
  obtain ⟨o1, o2, o3, o4, o5, o6, o7, o8⟩ := HO.out
  have K2 := Lib.hid (K1.out.trans hk2)
  have R1' := Lib.hid (R1.out.kept hk2)
  rw [q1, q2] at hr2
  rw [q1, q2]
  have R2 := Lib.hid hr2
  obtain ⟨M, hM⟩ : ∃ M, M = en1 - st1 := ⟨_, rfl⟩
  rw [← hM] at R2 ⊢
  have HM := Lib.hid hM
  have m1 : M ≤ 1048576 := by omega
  clear hr2 hk2 q1 q2 q3 q4 q5 q6 o1 o2 o3 o4 o5 o6 o7 o8 hM R1 K1
  go_wp2_with fail
  refine (ZZ_arr ⟨#[]⟩ a2 M c2 (fun t => z (st1 + t)) (iI c) (iI d) 1 d 1 c 0 0 (some c) (some d) (idxV_int _ _ _) (idxV_int _ _ _) (ix_int _ c (toInt_int c) (by omega) (by omega)) (ix_int _ d (toIntCeil_int d) (by omega) (by omega)) w2 m1 R2.out).mono ?_
  rintro e w3 ⟨a3, c3, rfl, hr3, hk3⟩
  obtain ⟨q1, q2, q3, q4, q5, q6⟩ := HQ.out
  obtain ⟨o1, o2, o3, o4, o5, o6, o7, o8⟩ := HO.out
  have K3 := Lib.hid (K2.out.trans hk3)
  have R1 := Lib.hid (R1'.out.kept hk3)
  rw [HM.out, q3, q4] at hr3
  rw [HM.out, q3, q4]
  have hr3' := hr3.congr (g := fun t => .int .i64 (z (st3 + t))) (fun i hi => by
    have := (o8 (by omega)).1
    rw [show st1 + (st2 + i) = st3 + i by omega])
  obtain ⟨L, hL⟩ : ∃ L, L = en2 - st2 := ⟨_, rfl⟩
  rw [← hL] at hr3' ⊢
  have R3 := Lib.hid hr3'
  have HL := Lib.hid (hL.trans o7)
  have l1 : L ≤ 1048576 := by omega
  clear hr3 hr3' hk3 q1 q2 q3 q4 q5 q6 o1 o2 o3 o4 o5 o6 o7 o8 hL R1' K2 R2 HM m1
  go_wp2_with fail
  refine (ZZ_arr str a1 n0 c1 z (iI (a + c)) (iI (a + d)) 1 (a + d) 1 (a + c) 0 0 (some (a + c)) (some (a + d)) (idxV_int _ _ _) (idxV_int _ _ _) (ix_int _ (a + c) (toInt_int (a + c)) (by omega) (by omega)) (ix_int _ (a + d) (toIntCeil_int (a + d)) (by omega) (by omega)) w3 (by omega) R1.out).mono ?_
  rintro e w4 ⟨a4, c4, rfl, hr4, hk4⟩
  obtain ⟨q1, q2, q3, q4, q5, q6⟩ := HQ.out
  have K4 := Lib.hid (K3.out.trans hk4)
  have R3' := Lib.hid (R3.out.kept hk4)
  rw [q5, q6, ← HL.out] at hr4
  rw [q5, q6, ← HL.out]
  have R4 := Lib.hid hr4
  clear hr4 hk4 q1 q2 q3 q4 q5 q6 R1 R3 K3
  go_wp2_with fail
  refine (eqInts_any a3 a4 L c3 c4 (fun t => z (st3 + t)) w4 l1 R3'.out R4.out).mono ?_
  rintro e w5 ⟨rfl, hk5⟩
  have K5 := Lib.hid (K4.out.trans hk5)
  clear hk5 K4
  go_wp2
  go_ret
  exact ⟨rfl, K5.out⟩
set_option maxHeartbeats 4000000 in
theorem cmp_a_n (str : ByteArray) (a0 : Option Addr) (n0 c0 : Nat) (z : Nat → Int) (a b c d : Int) (w : World) (H0 : Hid (Rd w a0 n0 (fun t => .int .i64 (z t)))) (g3 : str.size ≤ 1048576) (g4 : n0 ≤ 131072) (g2 : (str.size : Int) + 8 * (n0 : Int) ≤ 1048576)
    (a0' : 0 ≤ a) (b0' : 0 ≤ b) (c0' : 0 ≤ c) (d0' : 0 ≤ d) (a1' : a ≤ 536870912) (b1' : b ≤ 536870912) (c1' : c ≤ 536870912) (d1' : d ≤ 536870912) (hlt : b ≤ a + d) :
    Calls Tryz.prog 6 #[.bool false, .string str, .slice a0 n0 c0, .int .i64 a, .int .i64 b, .int .i64 c, .int .i64 d] w (TrueKept w) := by
  obtain ⟨st1, en1, st2, en2, st3, en3, q1, q2, q3, q4, q5, q6, o1, o2, o3, o4, o5, o6, o7, o8⟩ := comp_nat n0 a b c d b a0' b0' c0' d0' (by rw [if_neg (by omega)])
  have HQ := Lib.hid (And.intro q1 (And.intro q2 (And.intro q3 (And.intro q4 (And.intro q5 q6)))))
  have HO := Lib.hid (And.intro o1 (And.intro o2 (And.intro o3 (And.intro o4 (And.intro o5 (And.intro o6 (And.intro o7 o8)))))))
  clear q1 q2 q3 q4 q5 q6 o1 o2 o3 o4 o5 o6 o7 o8
  have n1 : b ≤ 1073741824 := by omega
  have n2 : 0 ≤ b := by omega
  go_enter Tryz.func6, Tryz.ntmps6
  go_wp2_with fail
  refine (bytes_cmp false str a0 n0 c0 a b c d w (by omega) (by omega)).mono ?_
  rintro e w1 ⟨b, rfl, rfl⟩
  cases b with
  | false =>
    go_wp2
    go_ret
    exact ⟨rfl, Below.refl _ _⟩
  | true =>
  go_wp2_with fail
  refine (clone_any a0 n0 c0 z w (by omega) H0.out).mono ?_
  rintro e w1 ⟨a1, c1, rfl, hr1, hk1⟩
  have R1 := Lib.hid hr1
  have K1 := Lib.hid hk1
  clear hr1 hk1 H0
  go_wp2_with fail
  refine (ZZ_arr str a1 n0 c1 z (iI a) (iI b) 1 b 1 a 0 0 (some a) (some b) (idxV_int _ _ _) (idxV_int _ _ _) (ix_int _ a (toInt_int a) (by omega) (by omega)) (ix_int _ b (toIntCeil_int b) (by omega) (by omega)) w1 (by omega) R1.out).mono ?_
  rintro e w2 ⟨a2, c2, rfl, hr2, hk2⟩
  obtain ⟨q1, q2, q3, q4, q5, q6⟩ := HQ.out
  obtain ⟨o1, o2, o3, o4, o5, o6, o7, o8⟩ := HO.out
  have K2 := Lib.hid (K1.out.trans hk2)
  have R1' := Lib.hid (R1.out.kept hk2)
  rw [q1, q2] at hr2
  rw [q1, q2]
  have R2 := Lib.hid hr2
  obtain ⟨M, hM⟩ : ∃ M, M = en1 - st1 := ⟨_, rfl⟩
  rw [← hM] at R2 ⊢
  have HM := Lib.hid hM
  have m1 : M ≤ 1048576 := by omega
  clear hr2 hk2 q1 q2 q3 q4 q5 q6 o1 o2 o3 o4 o5 o6 o7 o8 hM R1 K1
  go_wp2_with fail
  refine (ZZ_arr ⟨#[]⟩ a2 M c2 (fun t => z (st1 + t)) (iI c) (iI d) 1 d 1 c 0 0 (some c) (some d) (idxV_int _ _ _) (idxV_int _ _ _) (ix_int _ c (toInt_int c) (by omega) (by omega)) (ix_int _ d (toIntCeil_int d) (by omega) (by omega)) w2 m1 R2.out).mono ?_
  rintro e w3 ⟨a3, c3, rfl, hr3, hk3⟩
  obtain ⟨q1, q2, q3, q4, q5, q6⟩ := HQ.out
  obtain ⟨o1, o2, o3, o4, o5, o6, o7, o8⟩ := HO.out
  have K3 := Lib.hid (K2.out.trans hk3)
  have R1 := Lib.hid (R1'.out.kept hk3)
  rw [HM.out, q3, q4] at hr3
  rw [HM.out, q3, q4]
  have hr3' := hr3.congr (g := fun t => .int .i64 (z (st3 + t))) (fun i hi => by
    have := (o8 (by omega)).1
    rw [show st1 + (st2 + i) = st3 + i by omega])
  obtain ⟨L, hL⟩ : ∃ L, L = en2 - st2 := ⟨_, rfl⟩
  rw [← hL] at hr3' ⊢
  have R3 := Lib.hid hr3'
  have HL := Lib.hid (hL.trans o7)
  have l1 : L ≤ 1048576 := by omega
  clear hr3 hr3' hk3 q1 q2 q3 q4 q5 q6 o1 o2 o3 o4 o5 o6 o7 o8 hL R1' K2 R2 HM m1
  go_wp2_with fail
  refine (ZZ_arr str a1 n0 c1 z (iI (a + c)) (iI b) 1 b 1 (a + c) 0 0 (some (a + c)) (some b) (idxV_int _ _ _) (idxV_int _ _ _) (ix_int _ (a + c) (toInt_int (a + c)) (by omega) (by omega)) (ix_int _ b (toIntCeil_int b) (by omega) (by omega)) w3 (by omega) R1.out).mono ?_
  rintro e w4 ⟨a4, c4, rfl, hr4, hk4⟩
  obtain ⟨q1, q2, q3, q4, q5, q6⟩ := HQ.out
  have K4 := Lib.hid (K3.out.trans hk4)
  have R3' := Lib.hid (R3.out.kept hk4)
  rw [q5, q6, ← HL.out] at hr4
  rw [q5, q6, ← HL.out]
  have R4 := Lib.hid hr4
  clear hr4 hk4 q1 q2 q3 q4 q5 q6 R1 R3 K3
  go_wp2_with fail
  refine (eqInts_any a3 a4 L c3 c4 (fun t => z (st3 + t)) w4 l1 R3'.out R4.out).mono ?_
  rintro e w5 ⟨rfl, hk5⟩
  have K5 := Lib.hid (K4.out.trans hk5)
  clear hk5 K4
  go_wp2
  go_ret
  exact ⟨rfl, K5.out⟩
set_option maxHeartbeats 8000000 in
theorem FnFuncSliceComposes_walk (iS : Bool) (str : ByteArray) (a0 : Option Addr) (n0 c0 : Nat) (z : Nat → Int) (a b c d : Int) (w : World) (hs : str.size ≤ 9223372036854775807) (h0 : Rd w a0 n0 (fun t => .int .i64 (z t))) (m0 : n0 ≤ 9223372036854775807) :
    Calls Tryz.prog 6 #[.bool iS, .string str, .slice a0 n0 c0, .int .i64 a, .int .i64 b, .int .i64 c, .int .i64 d] w (TrueKept w) := by
  by_cases hg : str.size ≤ 1048576 ∧ n0 ≤ 131072 ∧ (str.size : Int) + 8 * (n0 : Int) ≤ 1048576 ∧ 0 ≤ a ∧ 0 ≤ b ∧ 0 ≤ c ∧ 0 ≤ d ∧ a ≤ 536870912 ∧ b ≤ 536870912 ∧ c ≤ 536870912 ∧ d ≤ 536870912
  · obtain ⟨g3, g4, g2, a0', b0', c0', d0', a1', b1', c1', d1'⟩ := hg
    cases iS with
    | true =>
      by_cases hlt : a + d < b
      · exact cmp_s_y str a0 n0 c0 z a b c d w (Lib.hid h0) g3 g4 g2 a0' b0' c0' d0' a1' b1' c1' d1' hlt
      · exact cmp_s_n str a0 n0 c0 z a b c d w (Lib.hid h0) g3 g4 g2 a0' b0' c0' d0' a1' b1' c1' d1' (by omega)
    | false =>
      by_cases hlt : a + d < b
      · exact cmp_a_y str a0 n0 c0 z a b c d w (Lib.hid h0) g3 g4 g2 a0' b0' c0' d0' a1' b1' c1' d1' hlt
      · exact cmp_a_n str a0 n0 c0 z a b c d w (Lib.hid h0) g3 g4 g2 a0' b0' c0' d0' a1' b1' c1' d1' (by omega)
  have HG := Lib.hid hg
  clear h0 hg
  go_enter Tryz.func6, Tryz.ntmps6
  go_wp2_with fail
  refine (bytes_cmp iS str a0 n0 c0 a b c d w hs m0).mono ?_
  rintro e w1 ⟨b, rfl, rfl⟩
  cases b with
  | false =>
    go_wp2
    go_ret
    exact ⟨rfl, Below.refl _ _⟩
  | true =>
  by_cases g0 : 1048576 < str.size
  · go_wp2
    go_ret
    exact ⟨rfl, Below.refl _ _⟩
  by_cases g1 : 131072 < n0
  · go_wp2
    go_ret
    exact ⟨rfl, Below.refl _ _⟩
  by_cases g2 : (1048576 : Int) < (str.size : Int) + 8 * (n0 : Int)
  · go_wp2
    go_ret
    exact ⟨rfl, Below.refl _ _⟩
  by_cases ga : a < 0
  · go_wp2
    go_ret
    exact ⟨rfl, Below.refl _ _⟩
  by_cases ka : 536870912 < a
  · go_wp2
    go_ret
    exact ⟨rfl, Below.refl _ _⟩
  by_cases gb : b < 0
  · go_wp2
    go_ret
    exact ⟨rfl, Below.refl _ _⟩
  by_cases kb : 536870912 < b
  · go_wp2
    go_ret
    exact ⟨rfl, Below.refl _ _⟩
  by_cases gc : c < 0
  · go_wp2
    go_ret
    exact ⟨rfl, Below.refl _ _⟩
  by_cases kc : 536870912 < c
  · go_wp2
    go_ret
    exact ⟨rfl, Below.refl _ _⟩
  by_cases gd : d < 0
  · go_wp2
    go_ret
    exact ⟨rfl, Below.refl _ _⟩
  by_cases kd : 536870912 < d
  · go_wp2
    go_ret
    exact ⟨rfl, Below.refl _ _⟩
  exact absurd (by omega) HG.out
end Go.Proofs.YticjhbklcpoonaaGreatDoor
