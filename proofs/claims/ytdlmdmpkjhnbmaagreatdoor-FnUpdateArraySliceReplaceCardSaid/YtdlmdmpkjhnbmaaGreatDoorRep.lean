/- The contract of updateArraySlice at an array. -/
import Derived.Test.YtdlmdmpkjhnbmaaGreatDoorSlc
import Derived.Test.YtdlmdmpkjhnbmaaGreatDoorCpy
import Derived.StillTailTactics
namespace Go.Proofs.YtdlmdmpkjhnbmaaGreatDoor
open Go.RowKit Go.Gq
attribute [local go_sem] Lib.run_eql_slice_nil
set_option maxRecDepth 100000
/-- v[:s] ++ u ++ v[e:]. -/
def rp (s U e : Nat) (f g : Nat → Value) : Nat → Value := fun t => if t < s then f t else if t < s + U then g (t - s) else f (e + (t - s - U))
set_option maxHeartbeats 4000000 in
theorem updateArraySlice_rep00 (va : Option Addr) (L vc : Nat) (f : Nat → Value) (ua : Option Addr) (U uc : Nat) (g : Nat → Value) (sN eN T mb : Nat) (w : World) (hv : Rd w va L f) (hu : Rd w ua U g) (hf : ∀ t, t < L → (f t).oneCell' = true) (hg : ∀ t, t < U → (g t).oneCell' = true) (hvc : L ≤ vc) (hB : BndIs w mb none none) (_hoS : okB none) (_hoE : okB none) (hs : sOf L none = sN) (he : eOf L sN none = eN) (hL : L ≤ 65536) (hU : U ≤ 65536) (hT : T = sN + U + (L - eN)) :
    Calls Tryz.prog 37 #[.slice va L vc, .map (some mb), .slice none 0 0, .iface 92 (.slice ua U uc), .map none] w fun e w' => ∃ b', e = .returned (.tuple #[.iface 92 (.slice (some ⟨b', 0, none⟩) T T), .nilIface]) ∧ w'.rowIs b' 20 T (rp sN U eN f g) ∧ w.heap.size ≤ b' ∧ Kept w w' := by
  have b1 := sOf_bd L none
  have b2 := eOf_bd L sN none (by omega)
  have b3 : sN ≤ eN ∧ eN ≤ L := by omega
  obtain ⟨hse, hel⟩ := b3
  clear b1 b2
  obtain ⟨l, hm, hl1, hl2⟩ := hB
  have k1 := run_lookup_assoc strKey (P := Tryz.prog) Tryz.underlying84 Tryz.underlying9 w hm kS _ (zeroAny w) true
  have k2 := run_lookup_assoc strKey (P := Tryz.prog) Tryz.underlying84 Tryz.underlying9 w hm kE _ (zeroAny w) true
  rw [hl1] at k1
  rw [hl2] at k2
  simp only [strKey, ob, if_true, Option.getD_some, Option.isSome_some] at k1 k2
  clear hm hl1 hl2
  obtain rfl : sN = 0 := by simp only [sOf] at hs; omega
  obtain rfl : L = eN := by simp only [eOf] at he; omega
  have Hs := Lib.hid hs
  have He := Lib.hid he
  have HT := Lib.hid hT
  clear hs he hT
  have q2 : (0 : Int) ≤ (0 : Int) := by omega
  have q3 : (0 : Int) ≤ (L : Int) := by omega
  have q4 : (L : Int) ≤ (L : Int) := by omega
  have HV := Lib.hid hv
  have HU := Lib.hid hu
  clear hv hu
  obtain ⟨va0, l0, vc0, hc0⟩ := cut_mid va L vc (0 : Int) (L : Int) 0 L rfl rfl (by omega) (by omega) hvc
  obtain ⟨va1, vc1, hc1, hr1⟩ := cut_hi va L vc (0 : Int) 0 rfl (by omega) hvc w f HV.out
  obtain ⟨va2, vc2, hc2, hr2⟩ := cut_lo va L vc (L : Int) L 0 rfl (by omega) hel hvc w f HV.out
  have HR1 := Lib.hid hr1
  have HR2 := Lib.hid hr2
  clear hr1 hr2
  cases hq1 : ((0 : Int) == (L : Int))
  all_goals
    go_enter Tryz.func37, Tryz.ntmps37
    go_wp2_with fail
    refine (update_empty _ _ _ _ _ _).mono ?_
    rintro e w' ⟨rfl, rfl⟩
    clear k1 k2 hq1
    cases hq5 : ((U : Int) == (L : Int))
    rotate_left
    · go_wp2_with fail
      refine (allocated_none none _ _ (.inl ⟨rfl, rfl⟩)).mono ?_
      rintro e w1 ⟨rfl, hk1⟩
      have K1 : Hid (Kept w w1) := hk1
      clear hk1
      go_wp2_with fail
      clear hq5
      refine (makeArray_any none T 0 T (by omega) (by have := HT.out; omega) w1 (.inl ⟨rfl, rfl⟩) _ _ (by have := HT.out; omega) rfl).mono ?_
      rintro e w2 ⟨b', rfl, hb', hrow, hkp2, _⟩
      have K2 : Hid (Kept w w2) := K1.out.trans (hkp2.below (Nat.le_refl _) (fun i e => by cases e))
      have hbw : w.heap.size ≤ b' := by have := K1.out.size; omega
      obtain ⟨w3, hcp3, hrow3, ho3⟩ := run_copy_cut w2 b' 0 T T (some ⟨b', 0, none⟩) va1 0 vc1 T 20 f _ (fun _ => rfl) hrow (HR1.out.kept K2.out) (by have := HT.out; omega) (by have := HT.out; omega) (fun t ht => hf t (by omega))
      have K3 : Hid (Kept w w3) := Below.trans K2.out (ho3.below hbw)
      obtain ⟨da4, dc4, hc4, hd4⟩ := cut_row b' T ((U : Int)) U (T - U) (by omega) rfl (by have := HT.out; omega)
      have hw4 : IntKind.i64.wrap ((U : Int)) = ((U : Nat) : Int) := by simp [IntKind.wrap, IntKind.bits, IntKind.signed]; omega
      have hc4w := fun W => (show (Instr.slice 92 (.slice (some ⟨b', 0, none⟩) T T) (some (.int .i64 (IntKind.i64.wrap ((U : Int))))) none none).run Tryz.prog W = .ok (.slice da4 (T - U) dc4) W by rw [hw4, show ((U : Nat) : Int) = (U : Int) by omega]; exact hc4 W)
      clear hw4
      obtain ⟨w4, hcp4, hrow4, ho4⟩ := run_copy_cut w3.drew b' U (T - U) dc4 da4 va2 0 vc2 T 20 (fun t => f (L + t)) _ (fun h => hd4 (by have := HT.out; omega)) (rowIs_kept hrow3 (kept_drew _)) (HR2.out.kept (K3.out.trans (kept_drew _))) (by have := HT.out; omega) (by have := HT.out; omega) (fun t ht => hf _ (by omega))
      have K4 : Hid (Kept w w4) := Below.trans (K3.out.trans (kept_drew _)) (ho4.below hbw)
      obtain ⟨da5, dc5, hc5, hd5⟩ := cut_row b' T (0 : Int) 0 T rfl (by omega) (by have := HT.out; omega)
      obtain ⟨w5, hcp5, hrow5, ho5⟩ := run_copy_cut w4 b' 0 T dc5 da5 ua U uc T 20 g _ (fun h => hd5 (by have := HT.out; omega)) hrow4 (HU.out.kept K4.out) (by have := HT.out; omega) (by have := HT.out; omega) hg
      have K5 : Hid (Kept w w5) := Below.trans K4.out (ho5.below hbw)
      have HR5 : Hid (w5.rowIs b' 20 T (rp 0 U L f g)) := hrow5.congr fun t ht => by
        have := HT.out
        unfold rp
        by_cases c1 : t < 0
        · rw [if_neg (by omega), if_neg (by omega), if_pos ⟨Nat.zero_le _, by omega⟩, if_pos c1, Nat.sub_zero]
        · rw [if_neg c1]
          by_cases c2 : t < 0 + U
          · rw [if_pos ⟨by omega, c2⟩, if_pos c2]
          · rw [if_neg (by omega), if_pos ⟨by omega, by omega⟩, if_neg c2, show t - U = t - 0 - U by omega]
      have HB := Lib.hid hbw
      clear hrow hkp2 hrow3 ho3 hrow4 ho4 hrow5 ho5 hd4 hd5 hbw hb'
      go_wp2_with fail
      go_still_tail 9, (by kernel_rfl)
      go_wp2
      go_ret2
      exact ⟨b', rfl, HR5.out, HB.out, K5.out⟩
    · have HK : Hid (Kept w w) := Below.refl _ _
      obtain ⟨w1, hw1⟩ : ∃ w1, w1 = w := ⟨_, rfl⟩
      rw [← hw1]
      have K1 : Hid (Kept w w1) := by rw [hw1]; exact HK.out
      clear HK hw1
      go_wp2_with fail
      clear hq5
      refine (makeArray_any none T 0 T (by omega) (by have := HT.out; omega) w1 (.inl ⟨rfl, rfl⟩) _ _ (by have := HT.out; omega) rfl).mono ?_
      rintro e w2 ⟨b', rfl, hb', hrow, hkp2, _⟩
      have K2 : Hid (Kept w w2) := K1.out.trans (hkp2.below (Nat.le_refl _) (fun i e => by cases e))
      have hbw : w.heap.size ≤ b' := by have := K1.out.size; omega
      obtain ⟨w3, hcp3, hrow3, ho3⟩ := run_copy_cut w2 b' 0 T T (some ⟨b', 0, none⟩) va1 0 vc1 T 20 f _ (fun _ => rfl) hrow (HR1.out.kept K2.out) (by have := HT.out; omega) (by have := HT.out; omega) (fun t ht => hf t (by omega))
      have K3 : Hid (Kept w w3) := Below.trans K2.out (ho3.below hbw)
      obtain ⟨da4, dc4, hc4, hd4⟩ := cut_row b' T ((U : Int)) U (T - U) (by omega) rfl (by have := HT.out; omega)
      have hw4 : IntKind.i64.wrap ((U : Int)) = ((U : Nat) : Int) := by simp [IntKind.wrap, IntKind.bits, IntKind.signed]; omega
      have hc4w := fun W => (show (Instr.slice 92 (.slice (some ⟨b', 0, none⟩) T T) (some (.int .i64 (IntKind.i64.wrap ((U : Int))))) none none).run Tryz.prog W = .ok (.slice da4 (T - U) dc4) W by rw [hw4, show ((U : Nat) : Int) = (U : Int) by omega]; exact hc4 W)
      clear hw4
      obtain ⟨w4, hcp4, hrow4, ho4⟩ := run_copy_cut w3.drew b' U (T - U) dc4 da4 va2 0 vc2 T 20 (fun t => f (L + t)) _ (fun h => hd4 (by have := HT.out; omega)) (rowIs_kept hrow3 (kept_drew _)) (HR2.out.kept (K3.out.trans (kept_drew _))) (by have := HT.out; omega) (by have := HT.out; omega) (fun t ht => hf _ (by omega))
      have K4 : Hid (Kept w w4) := Below.trans (K3.out.trans (kept_drew _)) (ho4.below hbw)
      obtain ⟨da5, dc5, hc5, hd5⟩ := cut_row b' T (0 : Int) 0 T rfl (by omega) (by have := HT.out; omega)
      obtain ⟨w5, hcp5, hrow5, ho5⟩ := run_copy_cut w4 b' 0 T dc5 da5 ua U uc T 20 g _ (fun h => hd5 (by have := HT.out; omega)) hrow4 (HU.out.kept K4.out) (by have := HT.out; omega) (by have := HT.out; omega) hg
      have K5 : Hid (Kept w w5) := Below.trans K4.out (ho5.below hbw)
      have HR5 : Hid (w5.rowIs b' 20 T (rp 0 U L f g)) := hrow5.congr fun t ht => by
        have := HT.out
        unfold rp
        by_cases c1 : t < 0
        · rw [if_neg (by omega), if_neg (by omega), if_pos ⟨Nat.zero_le _, by omega⟩, if_pos c1, Nat.sub_zero]
        · rw [if_neg c1]
          by_cases c2 : t < 0 + U
          · rw [if_pos ⟨by omega, c2⟩, if_pos c2]
          · rw [if_neg (by omega), if_pos ⟨by omega, by omega⟩, if_neg c2, show t - U = t - 0 - U by omega]
      have HB := Lib.hid hbw
      clear hrow hkp2 hrow3 ho3 hrow4 ho4 hrow5 ho5 hd4 hd5 hbw hb'
      go_wp2_with fail
      go_still_tail 9, (by kernel_rfl)
      go_wp2
      go_ret2
      exact ⟨b', rfl, HR5.out, HB.out, K5.out⟩
set_option maxHeartbeats 4000000 in
theorem updateArraySlice_rep01 (va : Option Addr) (L vc : Nat) (f : Nat → Value) (ua : Option Addr) (U uc : Nat) (g : Nat → Value) (ei : Int) (sN eN T mb : Nat) (w : World) (hv : Rd w va L f) (hu : Rd w ua U g) (hf : ∀ t, t < L → (f t).oneCell' = true) (hg : ∀ t, t < U → (g t).oneCell' = true) (hvc : L ≤ vc) (hB : BndIs w mb none (some ei)) (_hoS : okB none) (hoE : okB (some ei)) (hs : sOf L none = sN) (he : eOf L sN (some ei) = eN) (hL : L ≤ 65536) (hU : U ≤ 65536) (hT : T = sN + U + (L - eN)) :
    Calls Tryz.prog 37 #[.slice va L vc, .map (some mb), .slice none 0 0, .iface 92 (.slice ua U uc), .map none] w fun e w' => ∃ b', e = .returned (.tuple #[.iface 92 (.slice (some ⟨b', 0, none⟩) T T), .nilIface]) ∧ w'.rowIs b' 20 T (rp sN U eN f g) ∧ w.heap.size ≤ b' ∧ Kept w w' := by
  have b1 := sOf_bd L none
  have b2 := eOf_bd L sN (some ei) (by omega)
  have b3 : sN ≤ eN ∧ eN ≤ L := by omega
  obtain ⟨hse, hel⟩ := b3
  clear b1 b2
  obtain ⟨l, hm, hl1, hl2⟩ := hB
  have k1 := run_lookup_assoc strKey (P := Tryz.prog) Tryz.underlying84 Tryz.underlying9 w hm kS _ (zeroAny w) true
  have k2 := run_lookup_assoc strKey (P := Tryz.prog) Tryz.underlying84 Tryz.underlying9 w hm kE _ (zeroAny w) true
  rw [hl1] at k1
  rw [hl2] at k2
  simp only [strKey, ob, if_true, Option.getD_some, Option.isSome_some] at k1 k2
  clear hm hl1 hl2
  obtain rfl : sN = 0 := by simp only [sOf] at hs; omega
  have Hs := Lib.hid hs
  have He := Lib.hid he
  have HT := Lib.hid hT
  clear hs he hT
  have q2 : (0 : Int) ≤ (0 : Int) := by omega
  have q3 : (0 : Int) ≤ (eN : Int) := by omega
  have q4 : (eN : Int) ≤ (L : Int) := by omega
  have HV := Lib.hid hv
  have HU := Lib.hid hu
  clear hv hu
  obtain ⟨va0, l0, vc0, hc0⟩ := cut_mid va L vc (0 : Int) (eN : Int) 0 eN rfl rfl (by omega) (by omega) hvc
  obtain ⟨va1, vc1, hc1, hr1⟩ := cut_hi va L vc (0 : Int) 0 rfl (by omega) hvc w f HV.out
  obtain ⟨va2, vc2, hc2, hr2⟩ := cut_lo va L vc (eN : Int) eN (L - eN) rfl (by omega) hel hvc w f HV.out
  have HR1 := Lib.hid hr1
  have HR2 := Lib.hid hr2
  clear hr1 hr2
  cases hq1 : ((0 : Int) == (eN : Int))
  all_goals
    go_enter Tryz.func37, Tryz.ntmps37
    go_wp2_with fail
    refine (toIntCeil_int _ w).mono ?_
    rintro e w' ⟨rfl, rfl⟩
    go_wp2_with fail
    refine (clamp_any _ (0 : Int) L w (hoE _ rfl).1 (by omega) (by omega)).mono ?_
    rintro e w' ⟨rfl, rfl⟩
    rw [show clampZ _ (0 : Int) (L : Int) = (eN : Int) from He.out]
    go_wp2_with fail
    refine (update_empty _ _ _ _ _ _).mono ?_
    rintro e w' ⟨rfl, rfl⟩
    clear k1 k2 hq1
    cases hq5 : ((U : Int) == (eN : Int))
    rotate_left
    · go_wp2_with fail
      refine (allocated_none none _ _ (.inl ⟨rfl, rfl⟩)).mono ?_
      rintro e w1 ⟨rfl, hk1⟩
      have K1 : Hid (Kept w w1) := hk1
      clear hk1
      go_wp2_with fail
      clear hq5
      refine (makeArray_any none T 0 T (by omega) (by have := HT.out; omega) w1 (.inl ⟨rfl, rfl⟩) _ _ (by have := HT.out; omega) rfl).mono ?_
      rintro e w2 ⟨b', rfl, hb', hrow, hkp2, _⟩
      have K2 : Hid (Kept w w2) := K1.out.trans (hkp2.below (Nat.le_refl _) (fun i e => by cases e))
      have hbw : w.heap.size ≤ b' := by have := K1.out.size; omega
      obtain ⟨w3, hcp3, hrow3, ho3⟩ := run_copy_cut w2 b' 0 T T (some ⟨b', 0, none⟩) va1 0 vc1 T 20 f _ (fun _ => rfl) hrow (HR1.out.kept K2.out) (by have := HT.out; omega) (by have := HT.out; omega) (fun t ht => hf t (by omega))
      have K3 : Hid (Kept w w3) := Below.trans K2.out (ho3.below hbw)
      obtain ⟨da4, dc4, hc4, hd4⟩ := cut_row b' T ((U : Int)) U (T - U) (by omega) rfl (by have := HT.out; omega)
      have hw4 : IntKind.i64.wrap ((U : Int)) = ((U : Nat) : Int) := by simp [IntKind.wrap, IntKind.bits, IntKind.signed]; omega
      have hc4w := fun W => (show (Instr.slice 92 (.slice (some ⟨b', 0, none⟩) T T) (some (.int .i64 (IntKind.i64.wrap ((U : Int))))) none none).run Tryz.prog W = .ok (.slice da4 (T - U) dc4) W by rw [hw4, show ((U : Nat) : Int) = (U : Int) by omega]; exact hc4 W)
      clear hw4
      obtain ⟨w4, hcp4, hrow4, ho4⟩ := run_copy_cut w3.drew b' U (T - U) dc4 da4 va2 (L - eN) vc2 T 20 (fun t => f (eN + t)) _ (fun h => hd4 (by have := HT.out; omega)) (rowIs_kept hrow3 (kept_drew _)) (HR2.out.kept (K3.out.trans (kept_drew _))) (by have := HT.out; omega) (by have := HT.out; omega) (fun t ht => hf _ (by omega))
      have K4 : Hid (Kept w w4) := Below.trans (K3.out.trans (kept_drew _)) (ho4.below hbw)
      obtain ⟨da5, dc5, hc5, hd5⟩ := cut_row b' T (0 : Int) 0 T rfl (by omega) (by have := HT.out; omega)
      obtain ⟨w5, hcp5, hrow5, ho5⟩ := run_copy_cut w4 b' 0 T dc5 da5 ua U uc T 20 g _ (fun h => hd5 (by have := HT.out; omega)) hrow4 (HU.out.kept K4.out) (by have := HT.out; omega) (by have := HT.out; omega) hg
      have K5 : Hid (Kept w w5) := Below.trans K4.out (ho5.below hbw)
      have HR5 : Hid (w5.rowIs b' 20 T (rp 0 U eN f g)) := hrow5.congr fun t ht => by
        have := HT.out
        unfold rp
        by_cases c1 : t < 0
        · rw [if_neg (by omega), if_neg (by omega), if_pos ⟨Nat.zero_le _, by omega⟩, if_pos c1, Nat.sub_zero]
        · rw [if_neg c1]
          by_cases c2 : t < 0 + U
          · rw [if_pos ⟨by omega, c2⟩, if_pos c2]
          · rw [if_neg (by omega), if_pos ⟨by omega, by omega⟩, if_neg c2, show t - U = t - 0 - U by omega]
      have HB := Lib.hid hbw
      clear hrow hkp2 hrow3 ho3 hrow4 ho4 hrow5 ho5 hd4 hd5 hbw hb'
      go_wp2_with fail
      go_still_tail 9, (by kernel_rfl)
      go_wp2
      go_ret2
      exact ⟨b', rfl, HR5.out, HB.out, K5.out⟩
    · have HK : Hid (Kept w w) := Below.refl _ _
      obtain ⟨w1, hw1⟩ : ∃ w1, w1 = w := ⟨_, rfl⟩
      rw [← hw1]
      have K1 : Hid (Kept w w1) := by rw [hw1]; exact HK.out
      clear HK hw1
      go_wp2_with fail
      clear hq5
      refine (makeArray_any none T 0 T (by omega) (by have := HT.out; omega) w1 (.inl ⟨rfl, rfl⟩) _ _ (by have := HT.out; omega) rfl).mono ?_
      rintro e w2 ⟨b', rfl, hb', hrow, hkp2, _⟩
      have K2 : Hid (Kept w w2) := K1.out.trans (hkp2.below (Nat.le_refl _) (fun i e => by cases e))
      have hbw : w.heap.size ≤ b' := by have := K1.out.size; omega
      obtain ⟨w3, hcp3, hrow3, ho3⟩ := run_copy_cut w2 b' 0 T T (some ⟨b', 0, none⟩) va1 0 vc1 T 20 f _ (fun _ => rfl) hrow (HR1.out.kept K2.out) (by have := HT.out; omega) (by have := HT.out; omega) (fun t ht => hf t (by omega))
      have K3 : Hid (Kept w w3) := Below.trans K2.out (ho3.below hbw)
      obtain ⟨da4, dc4, hc4, hd4⟩ := cut_row b' T ((U : Int)) U (T - U) (by omega) rfl (by have := HT.out; omega)
      have hw4 : IntKind.i64.wrap ((U : Int)) = ((U : Nat) : Int) := by simp [IntKind.wrap, IntKind.bits, IntKind.signed]; omega
      have hc4w := fun W => (show (Instr.slice 92 (.slice (some ⟨b', 0, none⟩) T T) (some (.int .i64 (IntKind.i64.wrap ((U : Int))))) none none).run Tryz.prog W = .ok (.slice da4 (T - U) dc4) W by rw [hw4, show ((U : Nat) : Int) = (U : Int) by omega]; exact hc4 W)
      clear hw4
      obtain ⟨w4, hcp4, hrow4, ho4⟩ := run_copy_cut w3.drew b' U (T - U) dc4 da4 va2 (L - eN) vc2 T 20 (fun t => f (eN + t)) _ (fun h => hd4 (by have := HT.out; omega)) (rowIs_kept hrow3 (kept_drew _)) (HR2.out.kept (K3.out.trans (kept_drew _))) (by have := HT.out; omega) (by have := HT.out; omega) (fun t ht => hf _ (by omega))
      have K4 : Hid (Kept w w4) := Below.trans (K3.out.trans (kept_drew _)) (ho4.below hbw)
      obtain ⟨da5, dc5, hc5, hd5⟩ := cut_row b' T (0 : Int) 0 T rfl (by omega) (by have := HT.out; omega)
      obtain ⟨w5, hcp5, hrow5, ho5⟩ := run_copy_cut w4 b' 0 T dc5 da5 ua U uc T 20 g _ (fun h => hd5 (by have := HT.out; omega)) hrow4 (HU.out.kept K4.out) (by have := HT.out; omega) (by have := HT.out; omega) hg
      have K5 : Hid (Kept w w5) := Below.trans K4.out (ho5.below hbw)
      have HR5 : Hid (w5.rowIs b' 20 T (rp 0 U eN f g)) := hrow5.congr fun t ht => by
        have := HT.out
        unfold rp
        by_cases c1 : t < 0
        · rw [if_neg (by omega), if_neg (by omega), if_pos ⟨Nat.zero_le _, by omega⟩, if_pos c1, Nat.sub_zero]
        · rw [if_neg c1]
          by_cases c2 : t < 0 + U
          · rw [if_pos ⟨by omega, c2⟩, if_pos c2]
          · rw [if_neg (by omega), if_pos ⟨by omega, by omega⟩, if_neg c2, show t - U = t - 0 - U by omega]
      have HB := Lib.hid hbw
      clear hrow hkp2 hrow3 ho3 hrow4 ho4 hrow5 ho5 hd4 hd5 hbw hb'
      go_wp2_with fail
      go_still_tail 9, (by kernel_rfl)
      go_wp2
      go_ret2
      exact ⟨b', rfl, HR5.out, HB.out, K5.out⟩
set_option maxHeartbeats 4000000 in
theorem updateArraySlice_rep10 (va : Option Addr) (L vc : Nat) (f : Nat → Value) (ua : Option Addr) (U uc : Nat) (g : Nat → Value) (si : Int) (sN eN T mb : Nat) (w : World) (hv : Rd w va L f) (hu : Rd w ua U g) (hf : ∀ t, t < L → (f t).oneCell' = true) (hg : ∀ t, t < U → (g t).oneCell' = true) (hvc : L ≤ vc) (hB : BndIs w mb (some si) none) (hoS : okB (some si)) (_hoE : okB none) (hs : sOf L (some si) = sN) (he : eOf L sN none = eN) (hL : L ≤ 65536) (hU : U ≤ 65536) (hT : T = sN + U + (L - eN)) :
    Calls Tryz.prog 37 #[.slice va L vc, .map (some mb), .slice none 0 0, .iface 92 (.slice ua U uc), .map none] w fun e w' => ∃ b', e = .returned (.tuple #[.iface 92 (.slice (some ⟨b', 0, none⟩) T T), .nilIface]) ∧ w'.rowIs b' 20 T (rp sN U eN f g) ∧ w.heap.size ≤ b' ∧ Kept w w' := by
  have b1 := sOf_bd L (some si)
  have b2 := eOf_bd L sN none (by omega)
  have b3 : sN ≤ eN ∧ eN ≤ L := by omega
  obtain ⟨hse, hel⟩ := b3
  clear b1 b2
  obtain ⟨l, hm, hl1, hl2⟩ := hB
  have k1 := run_lookup_assoc strKey (P := Tryz.prog) Tryz.underlying84 Tryz.underlying9 w hm kS _ (zeroAny w) true
  have k2 := run_lookup_assoc strKey (P := Tryz.prog) Tryz.underlying84 Tryz.underlying9 w hm kE _ (zeroAny w) true
  rw [hl1] at k1
  rw [hl2] at k2
  simp only [strKey, ob, if_true, Option.getD_some, Option.isSome_some] at k1 k2
  clear hm hl1 hl2
  obtain rfl : L = eN := by simp only [eOf] at he; omega
  have Hs := Lib.hid hs
  have He := Lib.hid he
  have HT := Lib.hid hT
  clear hs he hT
  have q2 : (0 : Int) ≤ (sN : Int) := by omega
  have q3 : (sN : Int) ≤ (L : Int) := by omega
  have q4 : (L : Int) ≤ (L : Int) := by omega
  have HV := Lib.hid hv
  have HU := Lib.hid hu
  clear hv hu
  obtain ⟨va0, l0, vc0, hc0⟩ := cut_mid va L vc (sN : Int) (L : Int) sN L rfl rfl (by omega) (by omega) hvc
  obtain ⟨va1, vc1, hc1, hr1⟩ := cut_hi va L vc (sN : Int) sN rfl (by omega) hvc w f HV.out
  obtain ⟨va2, vc2, hc2, hr2⟩ := cut_lo va L vc (L : Int) L 0 rfl (by omega) hel hvc w f HV.out
  have HR1 := Lib.hid hr1
  have HR2 := Lib.hid hr2
  clear hr1 hr2
  cases hq1 : ((sN : Int) == (L : Int))
  all_goals
    go_enter Tryz.func37, Tryz.ntmps37
    go_wp2_with fail
    refine (toInt_int _ w).mono ?_
    rintro e w' ⟨rfl, rfl⟩
    go_wp2_with fail
    refine (clamp_any _ 0 L w (hoS _ rfl).1 (by omega) (by omega)).mono ?_
    rintro e w' ⟨rfl, rfl⟩
    rw [show clampZ _ 0 (L : Int) = (sN : Int) from Hs.out]
    go_wp2_with fail
    refine (update_empty _ _ _ _ _ _).mono ?_
    rintro e w' ⟨rfl, rfl⟩
    clear k1 k2 hq1
    cases hq5 : ((U : Int) == (L : Int) - (sN : Int))
    rotate_left
    · go_wp2_with fail
      refine (allocated_none none _ _ (.inl ⟨rfl, rfl⟩)).mono ?_
      rintro e w1 ⟨rfl, hk1⟩
      have K1 : Hid (Kept w w1) := hk1
      clear hk1
      go_wp2_with fail
      clear hq5
      refine (makeArray_any none T 0 T (by omega) (by have := HT.out; omega) w1 (.inl ⟨rfl, rfl⟩) _ _ (by have := HT.out; omega) rfl).mono ?_
      rintro e w2 ⟨b', rfl, hb', hrow, hkp2, _⟩
      have K2 : Hid (Kept w w2) := K1.out.trans (hkp2.below (Nat.le_refl _) (fun i e => by cases e))
      have hbw : w.heap.size ≤ b' := by have := K1.out.size; omega
      obtain ⟨w3, hcp3, hrow3, ho3⟩ := run_copy_cut w2 b' 0 T T (some ⟨b', 0, none⟩) va1 sN vc1 T 20 f _ (fun _ => rfl) hrow (HR1.out.kept K2.out) (by have := HT.out; omega) (by have := HT.out; omega) (fun t ht => hf t (by omega))
      have K3 : Hid (Kept w w3) := Below.trans K2.out (ho3.below hbw)
      obtain ⟨da4, dc4, hc4, hd4⟩ := cut_row b' T ((sN : Int) + (U : Int)) (sN + U) (T - (sN + U)) (by omega) rfl (by have := HT.out; omega)
      have hw4 : IntKind.i64.wrap ((sN : Int) + (U : Int)) = (((sN + U) : Nat) : Int) := by simp [IntKind.wrap, IntKind.bits, IntKind.signed]; omega
      have hc4w := fun W => (show (Instr.slice 92 (.slice (some ⟨b', 0, none⟩) T T) (some (.int .i64 (IntKind.i64.wrap ((sN : Int) + (U : Int))))) none none).run Tryz.prog W = .ok (.slice da4 (T - (sN + U)) dc4) W by rw [hw4, show (((sN + U) : Nat) : Int) = (sN : Int) + (U : Int) by omega]; exact hc4 W)
      clear hw4
      obtain ⟨w4, hcp4, hrow4, ho4⟩ := run_copy_cut w3.drew b' (sN + U) (T - (sN + U)) dc4 da4 va2 0 vc2 T 20 (fun t => f (L + t)) _ (fun h => hd4 (by have := HT.out; omega)) (rowIs_kept hrow3 (kept_drew _)) (HR2.out.kept (K3.out.trans (kept_drew _))) (by have := HT.out; omega) (by have := HT.out; omega) (fun t ht => hf _ (by omega))
      have K4 : Hid (Kept w w4) := Below.trans (K3.out.trans (kept_drew _)) (ho4.below hbw)
      obtain ⟨da5, dc5, hc5, hd5⟩ := cut_row b' T (sN : Int) sN (T - sN) rfl (by omega) (by have := HT.out; omega)
      obtain ⟨w5, hcp5, hrow5, ho5⟩ := run_copy_cut w4 b' sN (T - sN) dc5 da5 ua U uc T 20 g _ (fun h => hd5 (by have := HT.out; omega)) hrow4 (HU.out.kept K4.out) (by have := HT.out; omega) (by have := HT.out; omega) hg
      have K5 : Hid (Kept w w5) := Below.trans K4.out (ho5.below hbw)
      have HR5 : Hid (w5.rowIs b' 20 T (rp sN U L f g)) := hrow5.congr fun t ht => by
        have := HT.out
        unfold rp
        by_cases c1 : t < sN
        · rw [if_neg (by omega), if_neg (by omega), if_pos ⟨Nat.zero_le _, by omega⟩, if_pos c1, Nat.sub_zero]
        · rw [if_neg c1]
          by_cases c2 : t < sN + U
          · rw [if_pos ⟨by omega, c2⟩, if_pos c2]
          · rw [if_neg (by omega), if_pos ⟨by omega, by omega⟩, if_neg c2, show t - (sN + U) = t - sN - U by omega]
      have HB := Lib.hid hbw
      clear hrow hkp2 hrow3 ho3 hrow4 ho4 hrow5 ho5 hd4 hd5 hbw hb'
      go_wp2_with fail
      go_still_tail 9, (by kernel_rfl)
      go_wp2
      go_ret2
      exact ⟨b', rfl, HR5.out, HB.out, K5.out⟩
    · have HK : Hid (Kept w w) := Below.refl _ _
      obtain ⟨w1, hw1⟩ : ∃ w1, w1 = w := ⟨_, rfl⟩
      rw [← hw1]
      have K1 : Hid (Kept w w1) := by rw [hw1]; exact HK.out
      clear HK hw1
      go_wp2_with fail
      clear hq5
      refine (makeArray_any none T 0 T (by omega) (by have := HT.out; omega) w1 (.inl ⟨rfl, rfl⟩) _ _ (by have := HT.out; omega) rfl).mono ?_
      rintro e w2 ⟨b', rfl, hb', hrow, hkp2, _⟩
      have K2 : Hid (Kept w w2) := K1.out.trans (hkp2.below (Nat.le_refl _) (fun i e => by cases e))
      have hbw : w.heap.size ≤ b' := by have := K1.out.size; omega
      obtain ⟨w3, hcp3, hrow3, ho3⟩ := run_copy_cut w2 b' 0 T T (some ⟨b', 0, none⟩) va1 sN vc1 T 20 f _ (fun _ => rfl) hrow (HR1.out.kept K2.out) (by have := HT.out; omega) (by have := HT.out; omega) (fun t ht => hf t (by omega))
      have K3 : Hid (Kept w w3) := Below.trans K2.out (ho3.below hbw)
      obtain ⟨da4, dc4, hc4, hd4⟩ := cut_row b' T ((sN : Int) + (U : Int)) (sN + U) (T - (sN + U)) (by omega) rfl (by have := HT.out; omega)
      have hw4 : IntKind.i64.wrap ((sN : Int) + (U : Int)) = (((sN + U) : Nat) : Int) := by simp [IntKind.wrap, IntKind.bits, IntKind.signed]; omega
      have hc4w := fun W => (show (Instr.slice 92 (.slice (some ⟨b', 0, none⟩) T T) (some (.int .i64 (IntKind.i64.wrap ((sN : Int) + (U : Int))))) none none).run Tryz.prog W = .ok (.slice da4 (T - (sN + U)) dc4) W by rw [hw4, show (((sN + U) : Nat) : Int) = (sN : Int) + (U : Int) by omega]; exact hc4 W)
      clear hw4
      obtain ⟨w4, hcp4, hrow4, ho4⟩ := run_copy_cut w3.drew b' (sN + U) (T - (sN + U)) dc4 da4 va2 0 vc2 T 20 (fun t => f (L + t)) _ (fun h => hd4 (by have := HT.out; omega)) (rowIs_kept hrow3 (kept_drew _)) (HR2.out.kept (K3.out.trans (kept_drew _))) (by have := HT.out; omega) (by have := HT.out; omega) (fun t ht => hf _ (by omega))
      have K4 : Hid (Kept w w4) := Below.trans (K3.out.trans (kept_drew _)) (ho4.below hbw)
      obtain ⟨da5, dc5, hc5, hd5⟩ := cut_row b' T (sN : Int) sN (T - sN) rfl (by omega) (by have := HT.out; omega)
      obtain ⟨w5, hcp5, hrow5, ho5⟩ := run_copy_cut w4 b' sN (T - sN) dc5 da5 ua U uc T 20 g _ (fun h => hd5 (by have := HT.out; omega)) hrow4 (HU.out.kept K4.out) (by have := HT.out; omega) (by have := HT.out; omega) hg
      have K5 : Hid (Kept w w5) := Below.trans K4.out (ho5.below hbw)
      have HR5 : Hid (w5.rowIs b' 20 T (rp sN U L f g)) := hrow5.congr fun t ht => by
        have := HT.out
        unfold rp
        by_cases c1 : t < sN
        · rw [if_neg (by omega), if_neg (by omega), if_pos ⟨Nat.zero_le _, by omega⟩, if_pos c1, Nat.sub_zero]
        · rw [if_neg c1]
          by_cases c2 : t < sN + U
          · rw [if_pos ⟨by omega, c2⟩, if_pos c2]
          · rw [if_neg (by omega), if_pos ⟨by omega, by omega⟩, if_neg c2, show t - (sN + U) = t - sN - U by omega]
      have HB := Lib.hid hbw
      clear hrow hkp2 hrow3 ho3 hrow4 ho4 hrow5 ho5 hd4 hd5 hbw hb'
      go_wp2_with fail
      go_still_tail 9, (by kernel_rfl)
      go_wp2
      go_ret2
      exact ⟨b', rfl, HR5.out, HB.out, K5.out⟩
set_option maxHeartbeats 4000000 in
theorem updateArraySlice_rep11 (va : Option Addr) (L vc : Nat) (f : Nat → Value) (ua : Option Addr) (U uc : Nat) (g : Nat → Value) (si : Int) (ei : Int) (sN eN T mb : Nat) (w : World) (hv : Rd w va L f) (hu : Rd w ua U g) (hf : ∀ t, t < L → (f t).oneCell' = true) (hg : ∀ t, t < U → (g t).oneCell' = true) (hvc : L ≤ vc) (hB : BndIs w mb (some si) (some ei)) (hoS : okB (some si)) (hoE : okB (some ei)) (hs : sOf L (some si) = sN) (he : eOf L sN (some ei) = eN) (hL : L ≤ 65536) (hU : U ≤ 65536) (hT : T = sN + U + (L - eN)) :
    Calls Tryz.prog 37 #[.slice va L vc, .map (some mb), .slice none 0 0, .iface 92 (.slice ua U uc), .map none] w fun e w' => ∃ b', e = .returned (.tuple #[.iface 92 (.slice (some ⟨b', 0, none⟩) T T), .nilIface]) ∧ w'.rowIs b' 20 T (rp sN U eN f g) ∧ w.heap.size ≤ b' ∧ Kept w w' := by
  have b1 := sOf_bd L (some si)
  have b2 := eOf_bd L sN (some ei) (by omega)
  have b3 : sN ≤ eN ∧ eN ≤ L := by omega
  obtain ⟨hse, hel⟩ := b3
  clear b1 b2
  obtain ⟨l, hm, hl1, hl2⟩ := hB
  have k1 := run_lookup_assoc strKey (P := Tryz.prog) Tryz.underlying84 Tryz.underlying9 w hm kS _ (zeroAny w) true
  have k2 := run_lookup_assoc strKey (P := Tryz.prog) Tryz.underlying84 Tryz.underlying9 w hm kE _ (zeroAny w) true
  rw [hl1] at k1
  rw [hl2] at k2
  simp only [strKey, ob, if_true, Option.getD_some, Option.isSome_some] at k1 k2
  clear hm hl1 hl2
  have Hs := Lib.hid hs
  have He := Lib.hid he
  have HT := Lib.hid hT
  clear hs he hT
  have q2 : (0 : Int) ≤ (sN : Int) := by omega
  have q3 : (sN : Int) ≤ (eN : Int) := by omega
  have q4 : (eN : Int) ≤ (L : Int) := by omega
  have HV := Lib.hid hv
  have HU := Lib.hid hu
  clear hv hu
  obtain ⟨va0, l0, vc0, hc0⟩ := cut_mid va L vc (sN : Int) (eN : Int) sN eN rfl rfl (by omega) (by omega) hvc
  obtain ⟨va1, vc1, hc1, hr1⟩ := cut_hi va L vc (sN : Int) sN rfl (by omega) hvc w f HV.out
  obtain ⟨va2, vc2, hc2, hr2⟩ := cut_lo va L vc (eN : Int) eN (L - eN) rfl (by omega) hel hvc w f HV.out
  have HR1 := Lib.hid hr1
  have HR2 := Lib.hid hr2
  clear hr1 hr2
  cases hq1 : ((sN : Int) == (eN : Int))
  all_goals
    go_enter Tryz.func37, Tryz.ntmps37
    go_wp2_with fail
    refine (toInt_int _ w).mono ?_
    rintro e w' ⟨rfl, rfl⟩
    go_wp2_with fail
    refine (clamp_any _ 0 L w (hoS _ rfl).1 (by omega) (by omega)).mono ?_
    rintro e w' ⟨rfl, rfl⟩
    rw [show clampZ _ 0 (L : Int) = (sN : Int) from Hs.out]
    go_wp2_with fail
    refine (toIntCeil_int _ w).mono ?_
    rintro e w' ⟨rfl, rfl⟩
    go_wp2_with fail
    refine (clamp_any _ (sN : Int) L w (hoE _ rfl).1 (by omega) (by omega)).mono ?_
    rintro e w' ⟨rfl, rfl⟩
    rw [show clampZ _ (sN : Int) (L : Int) = (eN : Int) from He.out]
    go_wp2_with fail
    refine (update_empty _ _ _ _ _ _).mono ?_
    rintro e w' ⟨rfl, rfl⟩
    clear k1 k2 hq1
    cases hq5 : ((U : Int) == (eN : Int) - (sN : Int))
    rotate_left
    · go_wp2_with fail
      refine (allocated_none none _ _ (.inl ⟨rfl, rfl⟩)).mono ?_
      rintro e w1 ⟨rfl, hk1⟩
      have K1 : Hid (Kept w w1) := hk1
      clear hk1
      go_wp2_with fail
      clear hq5
      refine (makeArray_any none T 0 T (by omega) (by have := HT.out; omega) w1 (.inl ⟨rfl, rfl⟩) _ _ (by have := HT.out; omega) rfl).mono ?_
      rintro e w2 ⟨b', rfl, hb', hrow, hkp2, _⟩
      have K2 : Hid (Kept w w2) := K1.out.trans (hkp2.below (Nat.le_refl _) (fun i e => by cases e))
      have hbw : w.heap.size ≤ b' := by have := K1.out.size; omega
      obtain ⟨w3, hcp3, hrow3, ho3⟩ := run_copy_cut w2 b' 0 T T (some ⟨b', 0, none⟩) va1 sN vc1 T 20 f _ (fun _ => rfl) hrow (HR1.out.kept K2.out) (by have := HT.out; omega) (by have := HT.out; omega) (fun t ht => hf t (by omega))
      have K3 : Hid (Kept w w3) := Below.trans K2.out (ho3.below hbw)
      obtain ⟨da4, dc4, hc4, hd4⟩ := cut_row b' T ((sN : Int) + (U : Int)) (sN + U) (T - (sN + U)) (by omega) rfl (by have := HT.out; omega)
      have hw4 : IntKind.i64.wrap ((sN : Int) + (U : Int)) = (((sN + U) : Nat) : Int) := by simp [IntKind.wrap, IntKind.bits, IntKind.signed]; omega
      have hc4w := fun W => (show (Instr.slice 92 (.slice (some ⟨b', 0, none⟩) T T) (some (.int .i64 (IntKind.i64.wrap ((sN : Int) + (U : Int))))) none none).run Tryz.prog W = .ok (.slice da4 (T - (sN + U)) dc4) W by rw [hw4, show (((sN + U) : Nat) : Int) = (sN : Int) + (U : Int) by omega]; exact hc4 W)
      clear hw4
      obtain ⟨w4, hcp4, hrow4, ho4⟩ := run_copy_cut w3.drew b' (sN + U) (T - (sN + U)) dc4 da4 va2 (L - eN) vc2 T 20 (fun t => f (eN + t)) _ (fun h => hd4 (by have := HT.out; omega)) (rowIs_kept hrow3 (kept_drew _)) (HR2.out.kept (K3.out.trans (kept_drew _))) (by have := HT.out; omega) (by have := HT.out; omega) (fun t ht => hf _ (by omega))
      have K4 : Hid (Kept w w4) := Below.trans (K3.out.trans (kept_drew _)) (ho4.below hbw)
      obtain ⟨da5, dc5, hc5, hd5⟩ := cut_row b' T (sN : Int) sN (T - sN) rfl (by omega) (by have := HT.out; omega)
      obtain ⟨w5, hcp5, hrow5, ho5⟩ := run_copy_cut w4 b' sN (T - sN) dc5 da5 ua U uc T 20 g _ (fun h => hd5 (by have := HT.out; omega)) hrow4 (HU.out.kept K4.out) (by have := HT.out; omega) (by have := HT.out; omega) hg
      have K5 : Hid (Kept w w5) := Below.trans K4.out (ho5.below hbw)
      have HR5 : Hid (w5.rowIs b' 20 T (rp sN U eN f g)) := hrow5.congr fun t ht => by
        have := HT.out
        unfold rp
        by_cases c1 : t < sN
        · rw [if_neg (by omega), if_neg (by omega), if_pos ⟨Nat.zero_le _, by omega⟩, if_pos c1, Nat.sub_zero]
        · rw [if_neg c1]
          by_cases c2 : t < sN + U
          · rw [if_pos ⟨by omega, c2⟩, if_pos c2]
          · rw [if_neg (by omega), if_pos ⟨by omega, by omega⟩, if_neg c2, show t - (sN + U) = t - sN - U by omega]
      have HB := Lib.hid hbw
      clear hrow hkp2 hrow3 ho3 hrow4 ho4 hrow5 ho5 hd4 hd5 hbw hb'
      go_wp2_with fail
      go_still_tail 9, (by kernel_rfl)
      go_wp2
      go_ret2
      exact ⟨b', rfl, HR5.out, HB.out, K5.out⟩
    · have HK : Hid (Kept w w) := Below.refl _ _
      obtain ⟨w1, hw1⟩ : ∃ w1, w1 = w := ⟨_, rfl⟩
      rw [← hw1]
      have K1 : Hid (Kept w w1) := by rw [hw1]; exact HK.out
      clear HK hw1
      go_wp2_with fail
      clear hq5
      refine (makeArray_any none T 0 T (by omega) (by have := HT.out; omega) w1 (.inl ⟨rfl, rfl⟩) _ _ (by have := HT.out; omega) rfl).mono ?_
      rintro e w2 ⟨b', rfl, hb', hrow, hkp2, _⟩
      have K2 : Hid (Kept w w2) := K1.out.trans (hkp2.below (Nat.le_refl _) (fun i e => by cases e))
      have hbw : w.heap.size ≤ b' := by have := K1.out.size; omega
      obtain ⟨w3, hcp3, hrow3, ho3⟩ := run_copy_cut w2 b' 0 T T (some ⟨b', 0, none⟩) va1 sN vc1 T 20 f _ (fun _ => rfl) hrow (HR1.out.kept K2.out) (by have := HT.out; omega) (by have := HT.out; omega) (fun t ht => hf t (by omega))
      have K3 : Hid (Kept w w3) := Below.trans K2.out (ho3.below hbw)
      obtain ⟨da4, dc4, hc4, hd4⟩ := cut_row b' T ((sN : Int) + (U : Int)) (sN + U) (T - (sN + U)) (by omega) rfl (by have := HT.out; omega)
      have hw4 : IntKind.i64.wrap ((sN : Int) + (U : Int)) = (((sN + U) : Nat) : Int) := by simp [IntKind.wrap, IntKind.bits, IntKind.signed]; omega
      have hc4w := fun W => (show (Instr.slice 92 (.slice (some ⟨b', 0, none⟩) T T) (some (.int .i64 (IntKind.i64.wrap ((sN : Int) + (U : Int))))) none none).run Tryz.prog W = .ok (.slice da4 (T - (sN + U)) dc4) W by rw [hw4, show (((sN + U) : Nat) : Int) = (sN : Int) + (U : Int) by omega]; exact hc4 W)
      clear hw4
      obtain ⟨w4, hcp4, hrow4, ho4⟩ := run_copy_cut w3.drew b' (sN + U) (T - (sN + U)) dc4 da4 va2 (L - eN) vc2 T 20 (fun t => f (eN + t)) _ (fun h => hd4 (by have := HT.out; omega)) (rowIs_kept hrow3 (kept_drew _)) (HR2.out.kept (K3.out.trans (kept_drew _))) (by have := HT.out; omega) (by have := HT.out; omega) (fun t ht => hf _ (by omega))
      have K4 : Hid (Kept w w4) := Below.trans (K3.out.trans (kept_drew _)) (ho4.below hbw)
      obtain ⟨da5, dc5, hc5, hd5⟩ := cut_row b' T (sN : Int) sN (T - sN) rfl (by omega) (by have := HT.out; omega)
      obtain ⟨w5, hcp5, hrow5, ho5⟩ := run_copy_cut w4 b' sN (T - sN) dc5 da5 ua U uc T 20 g _ (fun h => hd5 (by have := HT.out; omega)) hrow4 (HU.out.kept K4.out) (by have := HT.out; omega) (by have := HT.out; omega) hg
      have K5 : Hid (Kept w w5) := Below.trans K4.out (ho5.below hbw)
      have HR5 : Hid (w5.rowIs b' 20 T (rp sN U eN f g)) := hrow5.congr fun t ht => by
        have := HT.out
        unfold rp
        by_cases c1 : t < sN
        · rw [if_neg (by omega), if_neg (by omega), if_pos ⟨Nat.zero_le _, by omega⟩, if_pos c1, Nat.sub_zero]
        · rw [if_neg c1]
          by_cases c2 : t < sN + U
          · rw [if_pos ⟨by omega, c2⟩, if_pos c2]
          · rw [if_neg (by omega), if_pos ⟨by omega, by omega⟩, if_neg c2, show t - (sN + U) = t - sN - U by omega]
      have HB := Lib.hid hbw
      clear hrow hkp2 hrow3 ho3 hrow4 ho4 hrow5 ho5 hd4 hd5 hbw hb'
      go_wp2_with fail
      go_still_tail 9, (by kernel_rfl)
      go_wp2
      go_ret2
      exact ⟨b', rfl, HR5.out, HB.out, K5.out⟩
theorem updateArraySlice_rep (va : Option Addr) (L vc : Nat) (f : Nat → Value) (ua : Option Addr) (U uc : Nat) (g : Nat → Value) (S E : Option Int) (sN eN T mb : Nat) (w : World) (hv : Rd w va L f) (hu : Rd w ua U g) (hf : ∀ t, t < L → (f t).oneCell' = true) (hg : ∀ t, t < U → (g t).oneCell' = true) (hvc : L ≤ vc) (hB : BndIs w mb S E) (hoS : okB S) (hoE : okB E) (hs : sOf L S = sN) (he : eOf L sN E = eN) (hL : L ≤ 65536) (hU : U ≤ 65536) (hT : T = sN + U + (L - eN)) :
    Calls Tryz.prog 37 #[.slice va L vc, .map (some mb), .slice none 0 0, .iface 92 (.slice ua U uc), .map none] w fun e w' => ∃ b', e = .returned (.tuple #[.iface 92 (.slice (some ⟨b', 0, none⟩) T T), .nilIface]) ∧ w'.rowIs b' 20 T (rp sN U eN f g) ∧ w.heap.size ≤ b' ∧ Kept w w' := by
  cases S <;> cases E
  · exact updateArraySlice_rep00 va L vc f ua U uc g sN eN T mb w hv hu hf hg hvc hB hoS hoE hs he hL hU hT
  · exact updateArraySlice_rep01 va L vc f ua U uc g _ sN eN T mb w hv hu hf hg hvc hB hoS hoE hs he hL hU hT
  · exact updateArraySlice_rep10 va L vc f ua U uc g _ sN eN T mb w hv hu hf hg hvc hB hoS hoE hs he hL hU hT
  · exact updateArraySlice_rep11 va L vc f ua U uc g _ _ sN eN T mb w hv hu hf hg hvc hB hoS hoE hs he hL hU hT
end Go.Proofs.YtdlmdmpkjhnbmaaGreatDoor
