/- The walk of FnUpdateArraySliceDelete: the road of the deletion, the law. -/
import Derived.Test.YtmfebiipalaihaaGreatDoorBnd
namespace Go.Proofs.YtmfebiipalaihaaGreatDoor
open Go.RowKit Go.Gq
attribute [local go_sem] Lib.run_eql_slice_nil
set_option maxRecDepth 100000
theorem updS_mark (b n : Nat) (z : Nat → Int) (S E : Option Int) (sN eN mb : Nat) (w : World) (hn : n ≤ 65536) (hv : w.rowIs b 20 n (fun t => ib (z t))) (hB : BndIs w mb S E) (hoS : okB S) (hoE : okB E) (hs : sOf n S = sN) (he : eOf n sN E = eN) :
    Calls Tryz.prog 14 #[.slice (some ⟨b, 0, none⟩) n n, .map (some mb), .slice none 0 0, mk0, .map none] w fun e w' => ∃ b', e = .returned (.tuple #[.iface 39 (.slice (some ⟨b', 0, none⟩) n n), .nilIface]) ∧ w'.rowIs b' 20 n (fun t => mv (gS sN eN z t)) ∧ (b' = b ∨ w.heap.size ≤ b') ∧ Kept w w' := by
  have h1 := (sOf_bd n S).2
  have h2 := eOf_bd n sN E (by omega)
  by_cases hse : sN = eN
  · refine (updateArraySlice_samearr ⟨b, 0, none⟩ n n S E sN eN mb w hB hoS hoE hs he hse hn).mono ?_
    rintro e w' ⟨rfl, rfl⟩
    refine ⟨b, rfl, hv.congr fun t ht => ?_, .inl rfl, Below.refl _ _⟩
    unfold gS
    rw [if_neg (by omega)]
    rfl
  · exact (updateArraySlice_mark b n z S E sN eN mb w hB hoS hoE hs he (by omega) (by omega) hn hv).mono fun e w' ⟨b', g1, g2, g3, g4⟩ => ⟨b', g1, g2, .inr g3, g4⟩
theorem ZZDeleteSliceInts_nil (c : Nat) (st en : Int) (b1 b2 : Bool) (w : World) (s0 : -9223372036854775808 ≤ st) (s1 : st ≤ 9223372036854775807) (e0 : -9223372036854775808 ≤ en) (e1 : en ≤ 9223372036854775807) :
    Calls Tryz.prog 9 #[.slice none 0 c, .int .i64 st, .int .i64 en, .bool b1, .bool b2] w (DelNil w) := by
  go_enter Tryz.func9, Tryz.ntmps9
  go_wp2_with fail
  refine (zzIntsToAny_nil c w).mono ?_
  rintro e w1 ⟨rfl, rfl⟩
  go_wp2_with fail
  refine (zzStartEnd_any st en b1 b2 w).mono ?_
  rintro e w1 ⟨mb, rfl, hB, hk1⟩
  have HB := Lib.hid hB
  have K1 := Lib.hid hk1
  clear hB hk1
  go_wp2_with fail
  refine (updateArraySlice_samenil 0 0 (bnd b1 st) (bnd b2 en) 0 0 mb w1 HB.out (bnd_ok s0 s1) (bnd_ok e0 e1) (by have := sOf_bd 0 (bnd b1 st); omega) (by have := eOf_bd 0 ((0 : Nat) : Int) (bnd b2 en) (by omega); omega) rfl (by omega)).mono ?_
  rintro e w2 ⟨rfl, rfl⟩
  go_wp2_with fail
  refine (deleteEmpty_nil _).mono ?_
  rintro e w2 ⟨rfl, rfl⟩
  go_wp2_with fail
  refine (zzAnyToInts_nil _).mono ?_
  rintro e w3 ⟨rfl, rfl⟩
  go_wp2_with fail
  exact bodyPost_ret (v := .tuple #[.slice none 0 0, .slice none 0 0, .bool true, .bool true, .bool false]) (by simp [results, Tryz.results9, go_sem]) rfl ⟨rfl, K1.out⟩
set_option maxHeartbeats 1000000 in
theorem ZZDeleteSliceInts_some (a : Addr) (n c : Nat) (z : Nat → Int) (st en : Int) (b1 b2 : Bool) (sN eN : Nat) (w : World) (hn : n ≤ 65536) (h : Rd w (some a) n (fun t => .int .i64 (z t))) (s0 : -9223372036854775808 ≤ st) (s1 : st ≤ 9223372036854775807) (e0 : -9223372036854775808 ≤ en) (e1 : en ≤ 9223372036854775807) (hs : sOf n (bnd b1 st) = sN) (he : eOf n sN (bnd b2 en) = eN) :
    Calls Tryz.prog 9 #[.slice (some a) n c, .int .i64 st, .int .i64 en, .bool b1, .bool b2] w (DelArr (gS sN eN z) n w) := by
  have hkl := kl_len (gS sN eN z) n
  have Hs := Lib.hid hs
  have He := Lib.hid he
  clear hs he
  go_enter Tryz.func9, Tryz.ntmps9
  go_wp2_with fail
  refine (zzIntsToAny_some a n c z w (by omega) h).mono ?_
  rintro e w0 ⟨b, rfl, hb, hrow, hk0⟩
  have R0 := Lib.hid hrow
  have K0 := Lib.hid hk0
  clear hrow hk0 h
  go_wp2_with fail
  refine (zzStartEnd_any st en b1 b2 w0).mono ?_
  rintro e w1 ⟨mb, rfl, hB, hk1⟩
  have HBn := Lib.hid hB
  have R1 := Lib.hid (rowIs_kept R0.out hk1)
  have K1 := Lib.hid (K0.out.trans hk1)
  clear hB hk1
  go_wp2_with fail
  refine (updS_mark b n z (bnd b1 st) (bnd b2 en) sN eN mb w1 hn R1.out HBn.out (bnd_ok s0 s1) (bnd_ok e0 e1) Hs.out He.out).mono ?_
  rintro e w2 ⟨b', rfl, hrow2, hb', hk2⟩
  have HB : Hid (w.heap.size ≤ b') := by
    have := K1.out.size
    rcases hb' with h | h
    · rw [h]; exact hb
    · exact Nat.le_trans this h
  have R2 := Lib.hid hrow2
  have K2 := Lib.hid hk2
  clear hrow2 hk2 hb' hb
  go_wp2_with fail
  refine (deleteEmpty_arr b' n (gS sN eN z) w2 (by omega) R2.out).mono ?_
  rintro e w3 ⟨rfl, ⟨f, hr3, hf⟩, hk3⟩
  have hrd : Rd w3 (some ⟨b', 0, none⟩) (kl (gS sN eN z) n).length (fun s => ib ((kl (gS sN eN z) n).getD s 0)) := .inr ⟨b', 0, rfl, fun s hs => by rw [Nat.zero_add, hr3.cell (i := s) (by omega), hf s hs]⟩
  have K3 : Hid (Kept w w3) := Below.trans (K1.out.trans K2.out) (hk3.below (K1.out.trans K2.out).size (fun i e => by have := HB.out; omega))
  have R3 := Lib.hid hrd
  clear hr3 hf hk3 hrd
  obtain ⟨M, hM⟩ : ∃ M, M = (kl (gS sN eN z) n).length := ⟨_, rfl⟩
  have HM := Lib.hid hM
  rw [← hM] at R3 hkl ⊢
  clear hM
  go_wp2_with fail
  refine (zzAnyToInts_some ⟨b', 0, none⟩ M n (fun s => (kl (gS sN eN z) n).getD s 0) w3 (by omega) R3.out).mono ?_
  rintro e w4 ⟨b1', b2', rfl, h1, h2, hk4⟩
  have HF := Lib.hid (And.intro h1 (And.intro h2 (K3.out.trans hk4)))
  clear h1 h2 hk4
  go_wp2_with fail
  refine bodyPost_ret (v := .tuple #[.slice (some ⟨b1', 0, none⟩) M M, .slice (some ⟨b2', 0, none⟩) M M, .bool false, .bool true, .bool false]) (by simp [results, Tryz.results9, go_sem]) rfl ?_
  obtain rfl := HM.out
  exact ⟨b1', b2', rfl, HF.out⟩
set_option maxHeartbeats 4000000 in
theorem FnUpdateArraySliceDelete_walk (a0 : Option Addr) (n0 c0 : Nat) (z : Nat → Int) (st en : Int) (b1 b2 : Bool) (w : World) (h0 : Rd w a0 n0 (fun t => .int .i64 (z t))) (m0 : n0 ≤ 9223372036854775807) (s0 : -9223372036854775808 ≤ st) (s1 : st ≤ 9223372036854775807) (e0 : -9223372036854775808 ≤ en) (e1 : en ≤ 9223372036854775807) :
    Calls Tryz.prog 3 #[.slice a0 n0 c0, .int .i64 st, .int .i64 en, .bool b1, .bool b2] w (TrueKept w) := by
  have H0 := Lib.hid h0
  cases a0 with
  | none =>
    obtain rfl : n0 = 0 := by
      rcases h0 with h | ⟨b, off, e, h⟩
      · exact h
      · cases e
    clear h0
    have hsz : sOf 0 (bnd b1 st) = 0 := by have := sOf_bd 0 (bnd b1 st); omega
    have hez : eOf 0 0 (bnd b2 en) = 0 := by have := eOf_bd 0 0 (bnd b2 en) (by omega); omega
    have Hsz := Lib.hid hsz
    have Hez := Lib.hid hez
    clear hsz hez
    go_enter Tryz.func3, Tryz.ntmps3
    go_wp2_with fail
    refine (zzBytes_FnUpdateArraySliceDelete_any none 0 c0 st en b1 b2 w m0).mono ?_
    rintro e w1 ⟨b, rfl, rfl⟩
    cases b with
    | false =>
      go_wp2
      go_ret
      exact ⟨rfl, Below.refl _ _⟩
    | true =>
    go_wp2_with fail
    refine (zzCloneInts_nil c0 w).mono ?_
    rintro e w1 ⟨rfl, rfl⟩
    go_wp2_with fail
    refine (zzBounds_any 0 st en b1 b2 w (by omega) s0 s1 e0 e1).mono ?_
    rintro e w1 ⟨rfl, rfl⟩
    rw [Hsz.out, Hez.out]
    go_wp2_with fail
    refine (ZZDeleteSliceInts_nil 0 st en b1 b2 w s0 s1 e0 e1).mono ?_
    rintro e w1 ⟨rfl, hk1⟩
    have K1 := Lib.hid hk1
    clear hk1
    go_wp2
    go_loop [19] (fun t => t = .int .i64 0) (fun _ => 0)
    case atStart => rfl
    case round =>
      subst hrel
      go_wp2
      go_ret
      exact ⟨rfl, K1.out⟩
  | some a =>
    clear h0
    go_enter Tryz.func3, Tryz.ntmps3
    go_wp2_with fail
    refine (zzBytes_FnUpdateArraySliceDelete_any (some a) n0 c0 st en b1 b2 w m0).mono ?_
    rintro e w1 ⟨b, rfl, rfl⟩
    cases b with
    | false =>
      go_wp2
      go_ret
      exact ⟨rfl, Below.refl _ _⟩
    | true =>
    by_cases g0 : 65536 < n0
    · go_wp2
      go_ret
      exact ⟨rfl, Below.refl _ _⟩
    go_wp2_with fail
    refine (zzCloneInts_some a n0 c0 z w (by omega) H0.out).mono ?_
    rintro e w1 ⟨b0, rfl, _, hr0, hk1⟩
    have R1 := Lib.hid (rd_row hr0)
    have K1 := Lib.hid hk1
    clear hr0 hk1
    have bs := sOf_bd n0 (bnd b1 st)
    obtain ⟨sN, hs⟩ : ∃ s : Nat, sOf n0 (bnd b1 st) = s := ⟨(sOf n0 (bnd b1 st)).toNat, by omega⟩
    have be := eOf_bd n0 sN (bnd b2 en) (by omega)
    obtain ⟨eN, he⟩ : ∃ e : Nat, eOf n0 sN (bnd b2 en) = e := ⟨(eOf n0 sN (bnd b2 en)).toNat, by omega⟩
    have hsn : sN ≤ eN := by omega
    have hen : eN ≤ n0 := by omega
    have Hs := Lib.hid hs
    have He := Lib.hid he
    clear hs he bs be
    go_wp2_with fail
    refine (zzBounds_any n0 st en b1 b2 w1 (by omega) s0 s1 e0 e1).mono ?_
    rintro e w2 ⟨rfl, rfl⟩
    rw [Hs.out, He.out]
    go_wp2_with fail
    refine (ZZDeleteSliceInts_some ⟨b0, 0, none⟩ n0 n0 z st en b1 b2 sN eN w1 (by omega) R1.out s0 s1 e0 e1 Hs.out He.out).mono ?_
    rintro e w2 ⟨b1', b2', rfl, h1, h2, hk2⟩
    obtain ⟨p, q⟩ := (kl_gap (g := gS sN eN z) (z := z) (s := sN) (e := eN) hsn (fun t ht => by unfold gS; rw [if_neg (by omega)]) (fun t h1 h2 => by unfold gS; rw [if_pos ⟨h1, h2⟩]) (fun t ht => by unfold gS; rw [if_neg (by omega)]) n0).2.2 hen
    obtain ⟨M, hM⟩ : ∃ M, M = (kl (gS sN eN z) n0).length := ⟨_, rfl⟩
    rw [← hM] at p h1 h2 ⊢
    have HX := Lib.hid (And.intro h1 (And.intro h2 q))
    have K2 := Lib.hid (K1.out.trans hk2)
    have RV := Lib.hid (R1.out.kept hk2)
    have HP := Lib.hid p
    have q1 : ((M : Int) != (n0 : Int) - ((eN : Int) - (sN : Int))) = false := by simp; omega
    have hML : (M : Int) ≤ (n0 : Int) := by omega
    clear h1 h2 p q hk2 hM
    cases hqe : ((sN : Int) == (eN : Int))
    all_goals
      go_wp2_with fail
      clear hqe
      go_loopw [19] (fun t wr => ∃ k r : Nat, k ≤ M ∧ t = .int .i64 k ∧ wr = w2.drewN r) (fun t _ => M - (intOf t).toNat)
      case atStart => exact ⟨0, 0, Nat.zero_le _, rfl, rfl⟩
      case round =>
        obtain ⟨k, r, hk, rfl, rfl⟩ := hrel
        by_cases hlt : k < M
        · obtain ⟨h1, h2, q⟩ := HX.out
          have e1 := h1.cell hlt
          have e2 := h2.cell hlt
          rw [q k (by have := HP.out; omega)] at e1
          have q7 : (0 : Int) ≤ (k : Int) := by omega
          have q8 : (k : Int) < (M : Int) := by omega
          by_cases ck : k < sN
          · have e3 := rd_at RV.out (show k < n0 by have := HP.out; omega)
            rw [if_pos ck] at e1
            have q9 : (z k != z k) = false := by simp
            have t1 : (k : Int) < (sN : Int) := by omega
            have t2 : (k : Int) < (n0 : Int) := by omega
            clear h1 h2 q ck
            go_wp2_with fail
            go_quiet (fail)
            go_wp2
            go_roundw
            case rel => exact ⟨k + 1, _, by omega, by go_num, rfl⟩
            case measure => simp [intOf]; omega
          · obtain ⟨P, hP⟩ : ∃ P, P = k + (eN - sN) := ⟨_, rfl⟩
            have e3 := rd_at RV.out (show P < n0 by have := HP.out; omega)
            rw [if_neg ck, ← hP] at e1
            have q9 : (z P != z P) = false := by simp
            have t1 : (sN : Int) ≤ (k : Int) := by omega
            have t2 : (P : Int) < (n0 : Int) := by have := HP.out; omega
            have t3 : (k : Int) + ((eN : Int) - (sN : Int)) = (P : Int) := by omega
            clear h1 h2 q ck hP
            go_wp2_with fail
            go_quiet (fail)
            go_wp2
            go_roundw
            case rel => exact ⟨k + 1, _, by omega, by go_num, rfl⟩
            case measure => simp [intOf]; omega
        · have q6 : (M : Int) ≤ (k : Int) := by omega
          go_wp2
          go_ret
          exact ⟨rfl, K2.out.trans (kept_drewN _ _)⟩
end Go.Proofs.YtmfebiipalaihaaGreatDoor
