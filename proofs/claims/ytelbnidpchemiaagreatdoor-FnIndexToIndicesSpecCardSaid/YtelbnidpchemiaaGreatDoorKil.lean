/- The walk of FnIndexToIndicesSpec. -/
import Derived.Test.YtelbnidpchemiaaGreatDoorKiv
namespace Go.Proofs.YtelbnidpchemiaaGreatDoor
open Go.RowKit Go.Gq
set_option maxRecDepth 100000
section
attribute [local go_sem] Lib.run_eql_slice_nil
set_option maxHeartbeats 1000000 in
theorem copyStrings_rd (a : Option Addr) (n c : Nat) (f : Nat → ByteArray) (w : World) (hn : n ≤ 1048576) (h : Rd w a n (fun i => Value.string (f i))) :
    Calls Tryz.prog 41 #[.slice a n c] w fun e w' => ∃ a' c', e = .returned (.slice a' n c') ∧ Rd w' a' n (fun i => Value.string (f i)) ∧ Kept w w' := by
  cases a with
  | none =>
    obtain rfl := rd_none h
    go_enter Tryz.func41, Tryz.ntmps41
    go_wp2
    go_ret
    exact ⟨none, 0, rfl, .inl rfl, Below.refl _ _⟩
  | some x =>
    have hmk := make_gen 29 9 Tryz.underlying29 tixStr rfl (by omega) n n (Nat.le_refl _) (by omega)
    go_enter Tryz.func41, Tryz.ntmps41
    go_wp2
    obtain ⟨W, HW⟩ : ∃ W : World, W = w.alloc (.cells (madeCells #[Value.string ⟨#[]⟩] n) 9) := ⟨_, rfl⟩
    have hrow : W.rowIs w.heap.size 9 n (fun _ => Value.string ⟨#[]⟩) := by rw [HW]; exact World.rowIs_made w _ n 9
    have hk : Kept w W := by rw [HW]; exact kept_alloc _ _
    rw [← HW]
    clear HW hmk
    go_loopw [4, 12] (fun _ i wr => ∃ k : Nat, k ≤ n ∧ i = .int .i64 k ∧ wr.rowIs w.heap.size 9 n (fun j => if j < k then Value.string (f j) else Value.string ⟨#[]⟩) ∧ Kept w wr) (fun _ i _ => n - (intOf i).toNat)
    case atStart => exact ⟨0, Nat.zero_le _, rfl, by simpa using hrow, hk⟩
    case round =>
      obtain ⟨k, hk, rfl, hrow, hkp⟩ := hrel
      by_cases hlt : k < n
      · obtain ⟨b, off, hx, hc⟩ := (h.kept hkp).at hlt
        injection hx with hx
        subst hx
        have hd := hrow.cell hlt
        have hz := hrow.frozen k
        have hset := (hrow.set k (Value.string (f k))).congr (g := fun j => if j < k + 1 then Value.string (f j) else Value.string ⟨#[]⟩) (fun j hj => by
          by_cases e : j = k
          · subst e; simp
          · simp only [if_neg e]; by_cases e2 : j < k
            · rw [if_pos e2, if_pos (by omega)]
            · rw [if_neg e2, if_neg (by omega)])
        have hkp2 := hkp.setCell (p := ⟨w.heap.size, k, none⟩) (Nat.le_refl _) (Value.string (f k))
        have Hset := Lib.hid hset
        have Hkp := Lib.hid hkp2
        have q4 : (0 : Int) ≤ (k : Int) := by omega
        have q5 : (k : Int) < (n : Int) := by omega
        simp only [Nat.lt_irrefl, if_false] at hd
        clear hset hkp2 hrow hkp h
        go_wp2
        go_roundw
        case rel => exact ⟨k + 1, by omega, by go_num, Hset.out, Hkp.out⟩
        case measure => simp [intOf]; omega
      · have : k = n := by omega
        subst this
        go_wp2
        go_ret
        refine ⟨_, _, rfl, rd_row (hrow.congr fun i hi => by simp [hi]), hkp⟩
set_option maxHeartbeats 2000000 in
theorem zzBytes_any22 (a0 : Option Addr) (n0 c0 : Nat) (p : Nat → ByteArray) (nm : ByteArray) (hs : Bool) (sv : ByteArray) (si sl : Bool) (sk : Int) (s : ByteArray) (ek : Int) (es : ByteArray) (w : World) (h0 : Rd w a0 n0 (fun i => .string (p i))) (m0 : n0 ≤ 9223372036854775807) (m1 : nm.size ≤ 9223372036854775807) (m2 : sv.size ≤ 9223372036854775807) (m3 : s.size ≤ 9223372036854775807) (m4 : es.size ≤ 9223372036854775807) (k0 : ∀ i, i < n0 → (p i).size ≤ 9223372036854775807) :
    Calls Tryz.prog 40 #[.slice a0 n0 c0, .string nm, .bool hs, .string sv, .bool si, .bool sl, .int .i64 sk, .string s, .int .i64 ek, .string es] w (SomeBool w) := by
  have H0 := Lib.hid h0
  have H0S := Lib.hid k0
  clear h0 k0
  by_cases g0 : n0 ≤ 1048576
  rotate_left
  · go_enter Tryz.func40, Tryz.ntmps40
    go_wp2
    go_ret
    exact ⟨false, rfl, rfl⟩
  go_enter Tryz.func40, Tryz.ntmps40
  go_wp2
  go_loop [21, 22] (fun t i => ∃ (k : Nat) (z : Int), k ≤ n0 ∧ i = .int .i64 k ∧ t = .int .i64 z) (fun _ i => n0 - (intOf i).toNat)
  case atStart => exact ⟨0, _, Nat.zero_le _, rfl, rfl⟩
  case round =>
    obtain ⟨k, z0, hk, rfl, rfl⟩ := hrel
    by_cases hlt : k < n0
    · obtain ⟨b, off, e1, hc⟩ := H0.out.at hlt
      subst e1
      obtain ⟨x, hx⟩ : ∃ x, x = p k := ⟨_, rfl⟩
      have hsz : x.size ≤ 9223372036854775807 := by rw [hx]; exact H0S.out k hlt
      rw [← hx] at hc
      clear hx
      by_cases q1 : x.size ≤ 1048576
      rotate_left
      · go_wp2
        go_ret
        exact ⟨false, rfl, rfl⟩
      by_cases q2 : wrap64 (z0 + x.size) ≤ 1048576
      rotate_left
      · go_wp2
        go_ret
        exact ⟨false, rfl, rfl⟩
      go_wp2
      go_round
      case rel => exact ⟨k + 1, wrap64 (z0 + x.size), by omega, by go_num, rfl⟩
      case measure => simp [intOf]; omega
    have hk2 : (n0 : Int) ≤ (k : Int) := by omega
    clear hlt
    by_cases r0 : (nm.size : Int) ≤ 1048576
    rotate_left
    · go_wp2
      go_ret
      exact ⟨false, rfl, rfl⟩
    by_cases t0 : wrap64 (z0 + nm.size) ≤ 1048576
    rotate_left
    · go_wp2
      go_ret
      exact ⟨false, rfl, rfl⟩
    by_cases r1 : (sv.size : Int) ≤ 1048576
    rotate_left
    · go_wp2
      go_ret
      exact ⟨false, rfl, rfl⟩
    by_cases t1 : wrap64 (wrap64 (z0 + nm.size) + sv.size) ≤ 1048576
    rotate_left
    · go_wp2
      go_ret
      exact ⟨false, rfl, rfl⟩
    by_cases r2 : (s.size : Int) ≤ 1048576
    rotate_left
    · go_wp2
      go_ret
      exact ⟨false, rfl, rfl⟩
    by_cases t2 : wrap64 (wrap64 (wrap64 (z0 + nm.size) + sv.size) + s.size) ≤ 1048576
    rotate_left
    · go_wp2
      go_ret
      exact ⟨false, rfl, rfl⟩
    by_cases r3 : (es.size : Int) ≤ 1048576
    rotate_left
    · go_wp2
      go_ret
      exact ⟨false, rfl, rfl⟩
    by_cases t3 : wrap64 (wrap64 (wrap64 (wrap64 (z0 + nm.size) + sv.size) + s.size) + es.size) ≤ 1048576
    rotate_left
    · go_wp2
      go_ret
      exact ⟨false, rfl, rfl⟩
    go_wp2
    go_ret
    exact ⟨true, rfl, rfl⟩
set_option maxHeartbeats 16000000 in
theorem FnIndexToIndicesSpec_walk (a0 : Option Addr) (n0 c0 : Nat) (p : Nat → ByteArray) (nm : ByteArray) (hs : Bool) (sv : ByteArray) (si sl : Bool) (sk : Int) (s : ByteArray) (ek : Int) (es : ByteArray) (w : World) (h0 : Rd w a0 n0 (fun i => .string (p i))) (m0 : n0 ≤ 9223372036854775807) (m1 : nm.size ≤ 9223372036854775807) (m2 : sv.size ≤ 9223372036854775807) (m3 : s.size ≤ 9223372036854775807) (m4 : es.size ≤ 9223372036854775807) (k0 : ∀ i, i < n0 → (p i).size ≤ 9223372036854775807) :
    Calls Tryz.prog 9 #[.slice a0 n0 c0, .string nm, .bool hs, .string sv, .bool si, .bool sl, .int .i64 sk, .string s, .int .i64 ek, .string es] w (TrueKept w) := by
  have H0 := Lib.hid h0
  have HZ := zzBytes_any22 a0 n0 c0 p nm hs sv si sl sk s ek es w h0 m0 m1 m2 m3 m4 k0
  have H0S := Lib.hid k0
  clear h0 k0
  go_enter Tryz.func9, Tryz.ntmps9
  go_wp2_with fail
  refine HZ.mono ?_
  rintro e w1 ⟨b, rfl, rfl⟩
  clear HZ
  cases b with
  | false =>
    go_wp2
    go_ret
    exact ⟨rfl, Below.refl _ _⟩
  | true =>
  by_cases g0 : 65536 < n0
  · go_wp2
    go_ret
    exact ⟨rfl, Below.refl _ _⟩
  go_wp2_with fail
  go_loop [21, 22, 69] (fun t _ i => ∃ (k : Nat) (z : Int), k ≤ n0 ∧ i = .int .i64 k ∧ t = .int .i64 z) (fun _ _ i => n0 - (intOf i).toNat)
  case atStart => exact ⟨0, _, Nat.zero_le _, rfl, rfl⟩
  case round =>
  obtain ⟨k, z0, hk, rfl, rfl⟩ := hrel
  by_cases hlt : k < n0
  · obtain ⟨b, off, e1, hc⟩ := H0.out.at hlt
    subst e1
    obtain ⟨x, hx⟩ : ∃ x, x = p k := ⟨_, rfl⟩
    rw [← hx] at hc
    clear hx
    have q4 : (0 : Int) ≤ (k : Int) := by omega
    have q5 : (k : Int) < (n0 : Int) := by omega
    go_wp2
    go_round
    case rel => exact ⟨k + 1, _, by omega, by go_num, rfl⟩
    case measure => simp [intOf]; omega
  obtain rfl : k = n0 := by omega
  have hkk : (k : Int) ≤ (k : Int) := Int.le_refl _
  clear hlt hk
  by_cases g9 : 1048576 < z0
  · go_wp2
    go_ret
    exact ⟨rfl, Below.refl _ _⟩
  cases hnm : nm.toList.isEmpty with
  | false =>
    have HNM := Lib.hid hnm
    go_wp2_with fail
    refine (copyStrings_rd a0 k c0 p w (by omega) H0.out).mono ?_
    rintro e w1 ⟨x0, xc0, rfl, hr, hk1⟩
    have R1 := Lib.hid hr
    have K1 := Lib.hid hk1
    clear hr hk1
    go_wp2_with fail
    refine (keyIndex_any nm hs sv si sl sk s ek es w1 (fun h => by rw [HNM.out] at h; cases h.1)).mono ?_
    rintro e w2 ⟨hk2, i, rfl, hi⟩
    have R2 := Lib.hid (R1.out.kept hk2)
    have K2 := Lib.hid (K1.out.trans hk2)
    have HI := Lib.hid hi
    clear hk2 hi R1 K1
    go_wp2_with fail
    refine (modelKey_any nm hs sv si sl sk s ek es w2).mono ?_
    rintro e w3 ⟨rfl, rfl⟩
    obtain ⟨ky, hky⟩ : ∃ ky, ky = kyOf nm hs sv si sl sk s ek es := ⟨_, rfl⟩
    rw [← hky] at HI ⊢
    clear hky
    go_wp2_with fail
    refine (ZZIndexToIndices_any i ky x0 k xc0 p w2 HI.out R2.out (by omega)).mono ?_
    rintro e w4 ⟨hk4, hr⟩
    have R4 := Lib.hid (R2.out.kept hk4)
    have K4 := Lib.hid (K2.out.trans hk4)
    clear hk4 R2 K2 HI H0
    rcases hr with ⟨rfl, rfl⟩ | ⟨b1, b2, hno, rfl, hr1, hr2⟩
    · simp only [kyN]
      go_wp2
      go_ret
      exact ⟨rfl, K4.out⟩
    have u0 : (kyN ky == 0) = false := by cases ky <;> simp_all [kyN]
    have HR1 := Lib.hid hr1
    have HR2 := Lib.hid hr2
    have hc1 := rd_at0 hr1 (Nat.lt_succ_self k)
    simp only [Nat.lt_irrefl, if_false] at hc1
    have HC1 := Lib.hid hc1
    obtain ⟨M, hM⟩ : ∃ M, M = k + 1 := ⟨_, rfl⟩
    rw [← hM]
    have u1 : (k : Int) + 1 = (M : Int) := by omega
    have u2 : ((M : Int) != (M : Int)) = false := by simp
    have hMb : M ≤ 65537 := by omega
    have hMb2 : k < M := by omega
    obtain ⟨kn, hkn⟩ : ∃ kn, kn = kyN ky := ⟨_, rfl⟩
    obtain ⟨kt, hkt⟩ : ∃ kt, kt = kyT ky := ⟨_, rfl⟩
    obtain ⟨ka, hka⟩ : ∃ ka, ka = oN (kyA ky) := ⟨_, rfl⟩
    obtain ⟨kb, hkb⟩ : ∃ kb, kb = oT (kyA ky) := ⟨_, rfl⟩
    obtain ⟨kc, hkc⟩ : ∃ kc, kc = oN (kyB ky) := ⟨_, rfl⟩
    obtain ⟨kd, hkd⟩ : ∃ kd, kd = oT (kyB ky) := ⟨_, rfl⟩
    rw [← hkn] at u0 HC1
    rw [← hkn, ← hkt, ← hka, ← hkb, ← hkc, ← hkd]
    clear hkn hkt hka hkb hkc hkd hr1 hr2 hM hc1 hno
    go_wp2_with fail
    go_loopw [39, 160] (fun _ i wr => ∃ j r : Nat, j ≤ k ∧ i = .int .i64 j ∧ wr = w4.drewN r) (fun _ i _ => k - (intOf i).toNat)
    case atStart => exact ⟨0, 0, Nat.zero_le _, rfl, rfl⟩
    case round =>
    obtain ⟨j, r, hk, rfl, rfl⟩ := hrel
    by_cases hlt : j < k
    · obtain ⟨xb, xo, rfl, hx⟩ := R4.out.at hlt
      have hy := rd_at0 HR1.out (show j < k + 1 by omega)
      have hz := rd_at0 HR2.out (show j < k + 1 by omega)
      simp only [if_pos hlt] at hy hz
      obtain ⟨x, hxx⟩ : ∃ x, x = p j := ⟨_, rfl⟩
      rw [← hxx] at hx hz
      have q4 : (0 : Int) ≤ (j : Int) := by omega
      have q5 : (j : Int) < (k : Int) := by omega
      have q6 : (j : Int) < (M : Int) := by omega
      have q7 := beq_yes x
      clear hxx
      go_wp2_with fail
      go_quiet (fail)
      go_wp2
      go_roundw
      case rel => first | exact ⟨j + 1, _, by omega, by go_num, rfl⟩ | ((repeat apply Exists.intro); refine ⟨?_, rfl⟩; exact ⟨j + 1, _, by omega, by go_num, rfl⟩)
      case measure => simp [intOf]; omega
    obtain rfl : j = k := by omega
    have hy := HC1.out
    have q4 : (0 : Int) ≤ (j : Int) := by omega
    have q6 : (j : Int) < (M : Int) := by omega
    have y1 := beq_yes kt
    have y2 := beq_yes kb
    have y3 := beq_yes kd
    have y4 : (kn == kn) = true := by simp
    have y5 : (ka == ka) = true := by simp
    have y6 : (kc == kc) = true := by simp
    go_wp2
    go_ret
    exact ⟨rfl, K4.out.trans (kept_drewN w4 r)⟩
  | true =>
  have HNM := Lib.hid hnm
  cases hs with
  | true =>
    go_wp2_with fail
    refine (copyStrings_rd a0 k c0 p w (by omega) H0.out).mono ?_
    rintro e w1 ⟨x0, xc0, rfl, hr, hk1⟩
    have R1 := Lib.hid hr
    have K1 := Lib.hid hk1
    clear hr hk1
    go_wp2_with fail
    refine (keyIndex_any nm true sv si sl sk s ek es w1 (fun h => by cases h.2.1)).mono ?_
    rintro e w2 ⟨hk2, i, rfl, hi⟩
    have R2 := Lib.hid (R1.out.kept hk2)
    have K2 := Lib.hid (K1.out.trans hk2)
    have HI := Lib.hid hi
    clear hk2 hi R1 K1
    go_wp2_with fail
    refine (modelKey_any nm true sv si sl sk s ek es w2).mono ?_
    rintro e w3 ⟨rfl, rfl⟩
    obtain ⟨ky, hky⟩ : ∃ ky, ky = kyOf nm true sv si sl sk s ek es := ⟨_, rfl⟩
    rw [← hky] at HI ⊢
    clear hky
    go_wp2_with fail
    refine (ZZIndexToIndices_any i ky x0 k xc0 p w2 HI.out R2.out (by omega)).mono ?_
    rintro e w4 ⟨hk4, hr⟩
    have R4 := Lib.hid (R2.out.kept hk4)
    have K4 := Lib.hid (K2.out.trans hk4)
    clear hk4 R2 K2 HI H0
    rcases hr with ⟨rfl, rfl⟩ | ⟨b1, b2, hno, rfl, hr1, hr2⟩
    · simp only [kyN]
      go_wp2
      go_ret
      exact ⟨rfl, K4.out⟩
    have u0 : (kyN ky == 0) = false := by cases ky <;> simp_all [kyN]
    have HR1 := Lib.hid hr1
    have HR2 := Lib.hid hr2
    have hc1 := rd_at0 hr1 (Nat.lt_succ_self k)
    simp only [Nat.lt_irrefl, if_false] at hc1
    have HC1 := Lib.hid hc1
    obtain ⟨M, hM⟩ : ∃ M, M = k + 1 := ⟨_, rfl⟩
    rw [← hM]
    have u1 : (k : Int) + 1 = (M : Int) := by omega
    have u2 : ((M : Int) != (M : Int)) = false := by simp
    have hMb : M ≤ 65537 := by omega
    have hMb2 : k < M := by omega
    obtain ⟨kn, hkn⟩ : ∃ kn, kn = kyN ky := ⟨_, rfl⟩
    obtain ⟨kt, hkt⟩ : ∃ kt, kt = kyT ky := ⟨_, rfl⟩
    obtain ⟨ka, hka⟩ : ∃ ka, ka = oN (kyA ky) := ⟨_, rfl⟩
    obtain ⟨kb, hkb⟩ : ∃ kb, kb = oT (kyA ky) := ⟨_, rfl⟩
    obtain ⟨kc, hkc⟩ : ∃ kc, kc = oN (kyB ky) := ⟨_, rfl⟩
    obtain ⟨kd, hkd⟩ : ∃ kd, kd = oT (kyB ky) := ⟨_, rfl⟩
    rw [← hkn] at u0 HC1
    rw [← hkn, ← hkt, ← hka, ← hkb, ← hkc, ← hkd]
    clear hkn hkt hka hkb hkc hkd hr1 hr2 hM hc1 hno
    go_wp2_with fail
    go_loopw [39, 160] (fun _ i wr => ∃ j r : Nat, j ≤ k ∧ i = .int .i64 j ∧ wr = w4.drewN r) (fun _ i _ => k - (intOf i).toNat)
    case atStart => exact ⟨0, 0, Nat.zero_le _, rfl, rfl⟩
    case round =>
    obtain ⟨j, r, hk, rfl, rfl⟩ := hrel
    by_cases hlt : j < k
    · obtain ⟨xb, xo, rfl, hx⟩ := R4.out.at hlt
      have hy := rd_at0 HR1.out (show j < k + 1 by omega)
      have hz := rd_at0 HR2.out (show j < k + 1 by omega)
      simp only [if_pos hlt] at hy hz
      obtain ⟨x, hxx⟩ : ∃ x, x = p j := ⟨_, rfl⟩
      rw [← hxx] at hx hz
      have q4 : (0 : Int) ≤ (j : Int) := by omega
      have q5 : (j : Int) < (k : Int) := by omega
      have q6 : (j : Int) < (M : Int) := by omega
      have q7 := beq_yes x
      clear hxx
      go_wp2_with fail
      go_quiet (fail)
      go_wp2
      go_roundw
      case rel => first | exact ⟨j + 1, _, by omega, by go_num, rfl⟩ | ((repeat apply Exists.intro); refine ⟨?_, rfl⟩; exact ⟨j + 1, _, by omega, by go_num, rfl⟩)
      case measure => simp [intOf]; omega
    obtain rfl : j = k := by omega
    have hy := HC1.out
    have q4 : (0 : Int) ≤ (j : Int) := by omega
    have q6 : (j : Int) < (M : Int) := by omega
    have y1 := beq_yes kt
    have y2 := beq_yes kb
    have y3 := beq_yes kd
    have y4 : (kn == kn) = true := by simp
    have y5 : (ka == ka) = true := by simp
    have y6 : (kc == kc) = true := by simp
    go_wp2
    go_ret
    exact ⟨rfl, K4.out.trans (kept_drewN w4 r)⟩
  | false =>
  cases sl with
  | true =>
    go_wp2_with fail
    refine (copyStrings_rd a0 k c0 p w (by omega) H0.out).mono ?_
    rintro e w1 ⟨x0, xc0, rfl, hr, hk1⟩
    have R1 := Lib.hid hr
    have K1 := Lib.hid hk1
    clear hr hk1
    go_wp2_with fail
    refine (keyIndex_any nm false sv si true sk s ek es w1 (fun h => by cases h.2.2.1)).mono ?_
    rintro e w2 ⟨hk2, i, rfl, hi⟩
    have R2 := Lib.hid (R1.out.kept hk2)
    have K2 := Lib.hid (K1.out.trans hk2)
    have HI := Lib.hid hi
    clear hk2 hi R1 K1
    go_wp2_with fail
    refine (modelKey_any nm false sv si true sk s ek es w2).mono ?_
    rintro e w3 ⟨rfl, rfl⟩
    obtain ⟨ky, hky⟩ : ∃ ky, ky = kyOf nm false sv si true sk s ek es := ⟨_, rfl⟩
    rw [← hky] at HI ⊢
    clear hky
    go_wp2_with fail
    refine (ZZIndexToIndices_any i ky x0 k xc0 p w2 HI.out R2.out (by omega)).mono ?_
    rintro e w4 ⟨hk4, hr⟩
    have R4 := Lib.hid (R2.out.kept hk4)
    have K4 := Lib.hid (K2.out.trans hk4)
    clear hk4 R2 K2 HI H0
    rcases hr with ⟨rfl, rfl⟩ | ⟨b1, b2, hno, rfl, hr1, hr2⟩
    · simp only [kyN]
      go_wp2
      go_ret
      exact ⟨rfl, K4.out⟩
    have u0 : (kyN ky == 0) = false := by cases ky <;> simp_all [kyN]
    have HR1 := Lib.hid hr1
    have HR2 := Lib.hid hr2
    have hc1 := rd_at0 hr1 (Nat.lt_succ_self k)
    simp only [Nat.lt_irrefl, if_false] at hc1
    have HC1 := Lib.hid hc1
    obtain ⟨M, hM⟩ : ∃ M, M = k + 1 := ⟨_, rfl⟩
    rw [← hM]
    have u1 : (k : Int) + 1 = (M : Int) := by omega
    have u2 : ((M : Int) != (M : Int)) = false := by simp
    have hMb : M ≤ 65537 := by omega
    have hMb2 : k < M := by omega
    obtain ⟨kn, hkn⟩ : ∃ kn, kn = kyN ky := ⟨_, rfl⟩
    obtain ⟨kt, hkt⟩ : ∃ kt, kt = kyT ky := ⟨_, rfl⟩
    obtain ⟨ka, hka⟩ : ∃ ka, ka = oN (kyA ky) := ⟨_, rfl⟩
    obtain ⟨kb, hkb⟩ : ∃ kb, kb = oT (kyA ky) := ⟨_, rfl⟩
    obtain ⟨kc, hkc⟩ : ∃ kc, kc = oN (kyB ky) := ⟨_, rfl⟩
    obtain ⟨kd, hkd⟩ : ∃ kd, kd = oT (kyB ky) := ⟨_, rfl⟩
    rw [← hkn] at u0 HC1
    rw [← hkn, ← hkt, ← hka, ← hkb, ← hkc, ← hkd]
    clear hkn hkt hka hkb hkc hkd hr1 hr2 hM hc1 hno
    go_wp2_with fail
    go_loopw [39, 160] (fun _ i wr => ∃ j r : Nat, j ≤ k ∧ i = .int .i64 j ∧ wr = w4.drewN r) (fun _ i _ => k - (intOf i).toNat)
    case atStart => exact ⟨0, 0, Nat.zero_le _, rfl, rfl⟩
    case round =>
    obtain ⟨j, r, hk, rfl, rfl⟩ := hrel
    by_cases hlt : j < k
    · obtain ⟨xb, xo, rfl, hx⟩ := R4.out.at hlt
      have hy := rd_at0 HR1.out (show j < k + 1 by omega)
      have hz := rd_at0 HR2.out (show j < k + 1 by omega)
      simp only [if_pos hlt] at hy hz
      obtain ⟨x, hxx⟩ : ∃ x, x = p j := ⟨_, rfl⟩
      rw [← hxx] at hx hz
      have q4 : (0 : Int) ≤ (j : Int) := by omega
      have q5 : (j : Int) < (k : Int) := by omega
      have q6 : (j : Int) < (M : Int) := by omega
      have q7 := beq_yes x
      clear hxx
      go_wp2_with fail
      go_quiet (fail)
      go_wp2
      go_roundw
      case rel => first | exact ⟨j + 1, _, by omega, by go_num, rfl⟩ | ((repeat apply Exists.intro); refine ⟨?_, rfl⟩; exact ⟨j + 1, _, by omega, by go_num, rfl⟩)
      case measure => simp [intOf]; omega
    obtain rfl : j = k := by omega
    have hy := HC1.out
    have q4 : (0 : Int) ≤ (j : Int) := by omega
    have q6 : (j : Int) < (M : Int) := by omega
    have y1 := beq_yes kt
    have y2 := beq_yes kb
    have y3 := beq_yes kd
    have y4 : (kn == kn) = true := by simp
    have y5 : (ka == ka) = true := by simp
    have y6 : (kc == kc) = true := by simp
    go_wp2
    go_ret
    exact ⟨rfl, K4.out.trans (kept_drewN w4 r)⟩
  | false =>
  by_cases hsk : sk ≤ 0
  · go_wp2
    go_ret
    exact ⟨rfl, Below.refl _ _⟩
  have HSK := Lib.hid hsk
  go_wp2_with fail
  refine (copyStrings_rd a0 k c0 p w (by omega) H0.out).mono ?_
  rintro e w1 ⟨x0, xc0, rfl, hr, hk1⟩
  have R1 := Lib.hid hr
  have K1 := Lib.hid hk1
  clear hr hk1
  go_wp2_with fail
  refine (keyIndex_any nm false sv si false sk s ek es w1 (fun h => by have := HSK.out; have := h.2.2.2; omega)).mono ?_
  rintro e w2 ⟨hk2, i, rfl, hi⟩
  have R2 := Lib.hid (R1.out.kept hk2)
  have K2 := Lib.hid (K1.out.trans hk2)
  have HI := Lib.hid hi
  clear hk2 hi R1 K1
  go_wp2_with fail
  refine (modelKey_any nm false sv si false sk s ek es w2).mono ?_
  rintro e w3 ⟨rfl, rfl⟩
  obtain ⟨ky, hky⟩ : ∃ ky, ky = kyOf nm false sv si false sk s ek es := ⟨_, rfl⟩
  rw [← hky] at HI ⊢
  clear hky
  go_wp2_with fail
  refine (ZZIndexToIndices_any i ky x0 k xc0 p w2 HI.out R2.out (by omega)).mono ?_
  rintro e w4 ⟨hk4, hr⟩
  have R4 := Lib.hid (R2.out.kept hk4)
  have K4 := Lib.hid (K2.out.trans hk4)
  clear hk4 R2 K2 HI H0
  rcases hr with ⟨rfl, rfl⟩ | ⟨b1, b2, hno, rfl, hr1, hr2⟩
  · simp only [kyN]
    go_wp2
    go_ret
    exact ⟨rfl, K4.out⟩
  have u0 : (kyN ky == 0) = false := by cases ky <;> simp_all [kyN]
  have HR1 := Lib.hid hr1
  have HR2 := Lib.hid hr2
  have hc1 := rd_at0 hr1 (Nat.lt_succ_self k)
  simp only [Nat.lt_irrefl, if_false] at hc1
  have HC1 := Lib.hid hc1
  obtain ⟨M, hM⟩ : ∃ M, M = k + 1 := ⟨_, rfl⟩
  rw [← hM]
  have u1 : (k : Int) + 1 = (M : Int) := by omega
  have u2 : ((M : Int) != (M : Int)) = false := by simp
  have hMb : M ≤ 65537 := by omega
  have hMb2 : k < M := by omega
  obtain ⟨kn, hkn⟩ : ∃ kn, kn = kyN ky := ⟨_, rfl⟩
  obtain ⟨kt, hkt⟩ : ∃ kt, kt = kyT ky := ⟨_, rfl⟩
  obtain ⟨ka, hka⟩ : ∃ ka, ka = oN (kyA ky) := ⟨_, rfl⟩
  obtain ⟨kb, hkb⟩ : ∃ kb, kb = oT (kyA ky) := ⟨_, rfl⟩
  obtain ⟨kc, hkc⟩ : ∃ kc, kc = oN (kyB ky) := ⟨_, rfl⟩
  obtain ⟨kd, hkd⟩ : ∃ kd, kd = oT (kyB ky) := ⟨_, rfl⟩
  rw [← hkn] at u0 HC1
  rw [← hkn, ← hkt, ← hka, ← hkb, ← hkc, ← hkd]
  clear hkn hkt hka hkb hkc hkd hr1 hr2 hM hc1 hno
  go_wp2_with fail
  go_loopw [39, 160] (fun _ i wr => ∃ j r : Nat, j ≤ k ∧ i = .int .i64 j ∧ wr = w4.drewN r) (fun _ i _ => k - (intOf i).toNat)
  case atStart => exact ⟨0, 0, Nat.zero_le _, rfl, rfl⟩
  case round =>
  obtain ⟨j, r, hk, rfl, rfl⟩ := hrel
  by_cases hlt : j < k
  · obtain ⟨xb, xo, rfl, hx⟩ := R4.out.at hlt
    have hy := rd_at0 HR1.out (show j < k + 1 by omega)
    have hz := rd_at0 HR2.out (show j < k + 1 by omega)
    simp only [if_pos hlt] at hy hz
    obtain ⟨x, hxx⟩ : ∃ x, x = p j := ⟨_, rfl⟩
    rw [← hxx] at hx hz
    have q4 : (0 : Int) ≤ (j : Int) := by omega
    have q5 : (j : Int) < (k : Int) := by omega
    have q6 : (j : Int) < (M : Int) := by omega
    have q7 := beq_yes x
    clear hxx
    go_wp2_with fail
    go_quiet (fail)
    go_wp2
    go_roundw
    case rel => first | exact ⟨j + 1, _, by omega, by go_num, rfl⟩ | ((repeat apply Exists.intro); refine ⟨?_, rfl⟩; exact ⟨j + 1, _, by omega, by go_num, rfl⟩)
    case measure => simp [intOf]; omega
  obtain rfl : j = k := by omega
  have hy := HC1.out
  have q4 : (0 : Int) ≤ (j : Int) := by omega
  have q6 : (j : Int) < (M : Int) := by omega
  have y1 := beq_yes kt
  have y2 := beq_yes kb
  have y3 := beq_yes kd
  have y4 : (kn == kn) = true := by simp
  have y5 : (ka == ka) = true := by simp
  have y6 : (kc == kc) = true := by simp
  go_wp2
  go_ret
  exact ⟨rfl, K4.out.trans (kept_drewN w4 r)⟩
end
end Go.Proofs.YtelbnidpchemiaaGreatDoor
