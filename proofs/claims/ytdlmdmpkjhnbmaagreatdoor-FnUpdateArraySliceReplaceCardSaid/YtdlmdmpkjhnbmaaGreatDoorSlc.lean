/- The contracts of zzStartEnd, toIntCeil and updateArraySlice at the marker. -/
import Derived.Test.YtdlmdmpkjhnbmaaGreatDoorInts
namespace Go.Proofs.YtdlmdmpkjhnbmaaGreatDoor
open Go.RowKit Go.Gq
attribute [local go_sem] Lib.run_eql_slice_nil
set_option maxRecDepth 100000
abbrev kS : ByteArray := ⟨#[115, 116, 97, 114, 116]⟩
abbrev kE : ByteArray := ⟨#[101, 110, 100]⟩
/-- A bound: null, or an int. -/
def ob : Option Int → Value
  | none => .nilIface
  | some i => ib i
/-- A map that has the two bounds. -/
def BndIs (w : World) (mb : Nat) (S E : Option Int) : Prop := ∃ l, w.MapIs strKey mb l ∧ lkp kS l = some (ob S) ∧ lkp kE l = some (ob E)
theorem BndIs.kept {w w' : World} {mb : Nat} {S E : Option Int} (h : BndIs w mb S E) (k : Kept w w') : BndIs w' mb S E := by
  obtain ⟨l, h1, h2⟩ := h
  exact ⟨l, mapIs_of_block strKey h1 (k.block _ (mapIs_lt strKey h1)), h2⟩
theorem zzStartEnd_any (st en : Int) (b1 b2 : Bool) (w : World) :
    Calls Tryz.prog 38 #[.int .i64 st, .int .i64 en, .bool b1, .bool b2] w fun e w' => ∃ mb, e = .returned (.map (some mb)) ∧ BndIs w' mb (if b1 then none else some st) (if b2 then none else some en) ∧ Kept w w' := by
  have hmm : ∀ W : World, (Instr.makeMap 84 none).run Tryz.prog W = .ok (.map (some W.heap.size)) (W.alloc (.map #[] 0)) := fun W => by
    simp [Instr.makeMap]
  have hne : kE ≠ kS := by decide
  obtain ⟨w2, hu1, hm2, ho2⟩ := run_mapUpdate_assoc strKey (P := Tryz.prog) Tryz.underlying84 Tryz.underlying9 (w.alloc (.map #[] 0)) (mapIs_new strKey w) kS (ob (if b1 then none else some st))
  obtain ⟨w3, hu2, hm3, ho3⟩ := run_mapUpdate_assoc strKey (P := Tryz.prog) Tryz.underlying84 Tryz.underlying9 w2 hm2 kE (ob (if b2 then none else some en))
  have HF : Hid (BndIs w3 w.heap.size (if b1 then none else some st) (if b2 then none else some en) ∧ Kept w w3) := by
    refine ⟨⟨_, hm3, ?_, ?_⟩, ?_⟩
    · rw [lkp_aput, if_neg (Ne.symm hne), lkp_aput, if_pos rfl]
    · rw [lkp_aput, if_pos rfl]
    · exact Below.trans (Below.trans (kept_alloc w _) (ho2.below (Nat.le_refl _))) (ho3.below (Nat.le_refl _))
  simp only [strKey] at hu1 hu2
  clear hm2 ho2 hm3 ho3 hne
  cases b1 <;> cases b2
  all_goals
    simp only [ob, Bool.false_eq_true, if_false, if_true] at hu1 hu2 HF
    go_enter Tryz.func38, Tryz.ntmps38
    go_wp2
    go_ret
    exact ⟨_, rfl, HF.out⟩
theorem toIntCeil_int (n : Int) (w : World) :
    Calls Tryz.prog 52 #[.iface 3 (.int .i64 n)] w fun e w' => e = .returned (.tuple #[.int .i64 n, .bool true]) ∧ w = w' := by
  go_enter Tryz.func52, Tryz.ntmps52
  go_wp2_with fail
  refine (toInt_int n w).mono ?_
  rintro e w' ⟨rfl, rfl⟩
  go_wp2
  go_ret2
  exact ⟨rfl, rfl⟩
/-- jq's slice rule: the start. -/
def sOf (L : Nat) (S : Option Int) : Int := match S with | none => 0 | some i => clampZ i 0 L
/-- jq's slice rule: the end. -/
def eOf (L : Nat) (s : Int) (E : Option Int) : Int := match E with | none => L | some i => clampZ i s L
theorem sOf_bd (L : Nat) (S : Option Int) : 0 ≤ sOf L S ∧ sOf L S ≤ L := by
  cases S with
  | none => exact ⟨by simp [sOf], by simp [sOf]⟩
  | some i => simp only [sOf, clampZ]; constructor <;> (repeat' split) <;> omega
theorem eOf_bd (L : Nat) (s : Int) (E : Option Int) (h : s ≤ L) : s ≤ eOf L s E ∧ eOf L s E ≤ L := by
  cases E with
  | none => exact ⟨h, Int.le_refl _⟩
  | some i => simp only [eOf, clampZ]; constructor <;> (repeat' split) <;> omega
/-- The bounds of an int that may be missing. -/
def okB (S : Option Int) : Prop := ∀ i, S = some i → -9223372036854775808 ≤ i ∧ i ≤ 9223372036854775807
/-- The places s .. e marked. -/
def gS (s e : Nat) (z : Nat → Int) : Nat → Option Int := fun t => if s ≤ t ∧ t < e then none else some (z t)
set_option maxHeartbeats 1000000 in
theorem updateArraySlice_samenil (L vc : Nat) (S E : Option Int) (sN eN : Nat) (mb : Nat) (w : World) (hB : BndIs w mb S E) (hoS : okB S) (hoE : okB E) (hs : sOf L S = sN) (he : eOf L sN E = eN) (hse : sN = eN) (hL : L ≤ 65536) :
    Calls Tryz.prog 37 #[.slice none L vc, .map (some mb), .slice none 0 0, mk0, .map none] w fun e w' => e = .returned (.tuple #[.nilIface, .nilIface]) ∧ w = w' := by
  cases S <;> cases E
  · obtain ⟨l, hm, hl1, hl2⟩ := hB
    have k1 := run_lookup_assoc strKey (P := Tryz.prog) Tryz.underlying84 Tryz.underlying9 w hm kS _ (zeroAny w) true
    have k2 := run_lookup_assoc strKey (P := Tryz.prog) Tryz.underlying84 Tryz.underlying9 w hm kE _ (zeroAny w) true
    rw [hl1] at k1
    rw [hl2] at k2
    simp only [strKey, ob, if_true, Option.getD_some, Option.isSome_some] at k1 k2
    clear hm hl1 hl2
    obtain rfl : sN = 0 := by simp only [sOf] at hs; omega
    obtain rfl : L = eN := by simp only [eOf] at he; omega
    have Hs := Lib.hid hs
    have He := Lib.hid he
    clear hs he
    have q1 : ((0 : Int) == (L : Int)) = true := by simp; omega
    clear hse
    go_enter Tryz.func37, Tryz.ntmps37
    go_wp2_with fail
    go_ret2
    exact ⟨rfl, rfl⟩
  · obtain ⟨l, hm, hl1, hl2⟩ := hB
    have k1 := run_lookup_assoc strKey (P := Tryz.prog) Tryz.underlying84 Tryz.underlying9 w hm kS _ (zeroAny w) true
    have k2 := run_lookup_assoc strKey (P := Tryz.prog) Tryz.underlying84 Tryz.underlying9 w hm kE _ (zeroAny w) true
    rw [hl1] at k1
    rw [hl2] at k2
    simp only [strKey, ob, if_true, Option.getD_some, Option.isSome_some] at k1 k2
    clear hm hl1 hl2
    obtain rfl : sN = 0 := by simp only [sOf] at hs; omega
    have Hs := Lib.hid hs
    have He := Lib.hid he
    clear hs he
    have q1 : ((0 : Int) == (eN : Int)) = true := by simp; omega
    clear hse
    go_enter Tryz.func37, Tryz.ntmps37
    go_wp2_with fail
    refine (toIntCeil_int _ w).mono ?_
    rintro e w' ⟨rfl, rfl⟩
    go_wp2_with fail
    refine (clamp_any _ (0 : Int) L w (hoE _ rfl).1 (by omega) (by omega)).mono ?_
    rintro e w' ⟨rfl, rfl⟩
    rw [show clampZ _ (0 : Int) (L : Int) = (eN : Int) from He.out]
    go_wp2_with fail
    go_ret2
    exact ⟨rfl, rfl⟩
  · obtain ⟨l, hm, hl1, hl2⟩ := hB
    have k1 := run_lookup_assoc strKey (P := Tryz.prog) Tryz.underlying84 Tryz.underlying9 w hm kS _ (zeroAny w) true
    have k2 := run_lookup_assoc strKey (P := Tryz.prog) Tryz.underlying84 Tryz.underlying9 w hm kE _ (zeroAny w) true
    rw [hl1] at k1
    rw [hl2] at k2
    simp only [strKey, ob, if_true, Option.getD_some, Option.isSome_some] at k1 k2
    clear hm hl1 hl2
    obtain rfl : L = eN := by simp only [eOf] at he; omega
    have Hs := Lib.hid hs
    have He := Lib.hid he
    clear hs he
    have q1 : ((sN : Int) == (L : Int)) = true := by simp; omega
    clear hse
    go_enter Tryz.func37, Tryz.ntmps37
    go_wp2_with fail
    refine (toInt_int _ w).mono ?_
    rintro e w' ⟨rfl, rfl⟩
    go_wp2_with fail
    refine (clamp_any _ 0 L w (hoS _ rfl).1 (by omega) (by omega)).mono ?_
    rintro e w' ⟨rfl, rfl⟩
    rw [show clampZ _ 0 (L : Int) = (sN : Int) from Hs.out]
    go_wp2_with fail
    go_ret2
    exact ⟨rfl, rfl⟩
  · obtain ⟨l, hm, hl1, hl2⟩ := hB
    have k1 := run_lookup_assoc strKey (P := Tryz.prog) Tryz.underlying84 Tryz.underlying9 w hm kS _ (zeroAny w) true
    have k2 := run_lookup_assoc strKey (P := Tryz.prog) Tryz.underlying84 Tryz.underlying9 w hm kE _ (zeroAny w) true
    rw [hl1] at k1
    rw [hl2] at k2
    simp only [strKey, ob, if_true, Option.getD_some, Option.isSome_some] at k1 k2
    clear hm hl1 hl2
    have Hs := Lib.hid hs
    have He := Lib.hid he
    clear hs he
    have q1 : ((sN : Int) == (eN : Int)) = true := by simp; omega
    clear hse
    go_enter Tryz.func37, Tryz.ntmps37
    go_wp2_with fail
    refine (toInt_int _ w).mono ?_
    rintro e w' ⟨rfl, rfl⟩
    go_wp2_with fail
    refine (clamp_any _ 0 L w (hoS _ rfl).1 (by omega) (by omega)).mono ?_
    rintro e w' ⟨rfl, rfl⟩
    rw [show clampZ _ 0 (L : Int) = (sN : Int) from Hs.out]
    go_wp2_with fail
    refine (toIntCeil_int _ w).mono ?_
    rintro e w' ⟨rfl, rfl⟩
    go_wp2_with fail
    refine (clamp_any _ (sN : Int) L w (hoE _ rfl).1 (by omega) (by omega)).mono ?_
    rintro e w' ⟨rfl, rfl⟩
    rw [show clampZ _ (sN : Int) (L : Int) = (eN : Int) from He.out]
    go_wp2_with fail
    go_ret2
    exact ⟨rfl, rfl⟩
set_option maxHeartbeats 1000000 in
theorem updateArraySlice_samearr (a : Addr) (L vc : Nat) (S E : Option Int) (sN eN : Nat) (mb : Nat) (w : World) (hB : BndIs w mb S E) (hoS : okB S) (hoE : okB E) (hs : sOf L S = sN) (he : eOf L sN E = eN) (hse : sN = eN) (hL : L ≤ 65536) :
    Calls Tryz.prog 37 #[.slice (some a) L vc, .map (some mb), .slice none 0 0, mk0, .map none] w fun e w' => e = .returned (.tuple #[.iface 92 (.slice (some a) L vc), .nilIface]) ∧ w = w' := by
  cases S <;> cases E
  · obtain ⟨l, hm, hl1, hl2⟩ := hB
    have k1 := run_lookup_assoc strKey (P := Tryz.prog) Tryz.underlying84 Tryz.underlying9 w hm kS _ (zeroAny w) true
    have k2 := run_lookup_assoc strKey (P := Tryz.prog) Tryz.underlying84 Tryz.underlying9 w hm kE _ (zeroAny w) true
    rw [hl1] at k1
    rw [hl2] at k2
    simp only [strKey, ob, if_true, Option.getD_some, Option.isSome_some] at k1 k2
    clear hm hl1 hl2
    obtain rfl : sN = 0 := by simp only [sOf] at hs; omega
    obtain rfl : L = eN := by simp only [eOf] at he; omega
    have Hs := Lib.hid hs
    have He := Lib.hid he
    clear hs he
    have q1 : ((0 : Int) == (L : Int)) = true := by simp; omega
    clear hse
    go_enter Tryz.func37, Tryz.ntmps37
    go_wp2_with fail
    go_ret2
    exact ⟨rfl, rfl⟩
  · obtain ⟨l, hm, hl1, hl2⟩ := hB
    have k1 := run_lookup_assoc strKey (P := Tryz.prog) Tryz.underlying84 Tryz.underlying9 w hm kS _ (zeroAny w) true
    have k2 := run_lookup_assoc strKey (P := Tryz.prog) Tryz.underlying84 Tryz.underlying9 w hm kE _ (zeroAny w) true
    rw [hl1] at k1
    rw [hl2] at k2
    simp only [strKey, ob, if_true, Option.getD_some, Option.isSome_some] at k1 k2
    clear hm hl1 hl2
    obtain rfl : sN = 0 := by simp only [sOf] at hs; omega
    have Hs := Lib.hid hs
    have He := Lib.hid he
    clear hs he
    have q1 : ((0 : Int) == (eN : Int)) = true := by simp; omega
    clear hse
    go_enter Tryz.func37, Tryz.ntmps37
    go_wp2_with fail
    refine (toIntCeil_int _ w).mono ?_
    rintro e w' ⟨rfl, rfl⟩
    go_wp2_with fail
    refine (clamp_any _ (0 : Int) L w (hoE _ rfl).1 (by omega) (by omega)).mono ?_
    rintro e w' ⟨rfl, rfl⟩
    rw [show clampZ _ (0 : Int) (L : Int) = (eN : Int) from He.out]
    go_wp2_with fail
    go_ret2
    exact ⟨rfl, rfl⟩
  · obtain ⟨l, hm, hl1, hl2⟩ := hB
    have k1 := run_lookup_assoc strKey (P := Tryz.prog) Tryz.underlying84 Tryz.underlying9 w hm kS _ (zeroAny w) true
    have k2 := run_lookup_assoc strKey (P := Tryz.prog) Tryz.underlying84 Tryz.underlying9 w hm kE _ (zeroAny w) true
    rw [hl1] at k1
    rw [hl2] at k2
    simp only [strKey, ob, if_true, Option.getD_some, Option.isSome_some] at k1 k2
    clear hm hl1 hl2
    obtain rfl : L = eN := by simp only [eOf] at he; omega
    have Hs := Lib.hid hs
    have He := Lib.hid he
    clear hs he
    have q1 : ((sN : Int) == (L : Int)) = true := by simp; omega
    clear hse
    go_enter Tryz.func37, Tryz.ntmps37
    go_wp2_with fail
    refine (toInt_int _ w).mono ?_
    rintro e w' ⟨rfl, rfl⟩
    go_wp2_with fail
    refine (clamp_any _ 0 L w (hoS _ rfl).1 (by omega) (by omega)).mono ?_
    rintro e w' ⟨rfl, rfl⟩
    rw [show clampZ _ 0 (L : Int) = (sN : Int) from Hs.out]
    go_wp2_with fail
    go_ret2
    exact ⟨rfl, rfl⟩
  · obtain ⟨l, hm, hl1, hl2⟩ := hB
    have k1 := run_lookup_assoc strKey (P := Tryz.prog) Tryz.underlying84 Tryz.underlying9 w hm kS _ (zeroAny w) true
    have k2 := run_lookup_assoc strKey (P := Tryz.prog) Tryz.underlying84 Tryz.underlying9 w hm kE _ (zeroAny w) true
    rw [hl1] at k1
    rw [hl2] at k2
    simp only [strKey, ob, if_true, Option.getD_some, Option.isSome_some] at k1 k2
    clear hm hl1 hl2
    have Hs := Lib.hid hs
    have He := Lib.hid he
    clear hs he
    have q1 : ((sN : Int) == (eN : Int)) = true := by simp; omega
    clear hse
    go_enter Tryz.func37, Tryz.ntmps37
    go_wp2_with fail
    refine (toInt_int _ w).mono ?_
    rintro e w' ⟨rfl, rfl⟩
    go_wp2_with fail
    refine (clamp_any _ 0 L w (hoS _ rfl).1 (by omega) (by omega)).mono ?_
    rintro e w' ⟨rfl, rfl⟩
    rw [show clampZ _ 0 (L : Int) = (sN : Int) from Hs.out]
    go_wp2_with fail
    refine (toIntCeil_int _ w).mono ?_
    rintro e w' ⟨rfl, rfl⟩
    go_wp2_with fail
    refine (clamp_any _ (sN : Int) L w (hoE _ rfl).1 (by omega) (by omega)).mono ?_
    rintro e w' ⟨rfl, rfl⟩
    rw [show clampZ _ (sN : Int) (L : Int) = (eN : Int) from He.out]
    go_wp2_with fail
    go_ret2
    exact ⟨rfl, rfl⟩
set_option maxHeartbeats 4000000 in
theorem updateArraySlice_mark00 (b L : Nat) (z : Nat → Int) (sN eN : Nat) (mb : Nat) (w : World) (hB : BndIs w mb none none) (_hoS : okB none) (_hoE : okB none) (hs : sOf L none = sN) (he : eOf L sN none = eN) (hse : sN < eN) (hel : eN ≤ L) (hL : L ≤ 65536) (hv : w.rowIs b 20 L (fun t => ib (z t))) :
    Calls Tryz.prog 37 #[.slice (some ⟨b, 0, none⟩) L L, .map (some mb), .slice none 0 0, mk0, .map none] w fun e w' => ∃ b', e = .returned (.tuple #[.iface 92 (.slice (some ⟨b', 0, none⟩) L L), .nilIface]) ∧ w'.rowIs b' 20 L (fun t => mv (gS sN eN z t)) ∧ w.heap.size ≤ b' ∧ Kept w w' := by
  obtain ⟨l, hm, hl1, hl2⟩ := hB
  have k1 := run_lookup_assoc strKey (P := Tryz.prog) Tryz.underlying84 Tryz.underlying9 w hm kS _ (zeroAny w) true
  have k2 := run_lookup_assoc strKey (P := Tryz.prog) Tryz.underlying84 Tryz.underlying9 w hm kE _ (zeroAny w) true
  rw [hl1] at k1
  rw [hl2] at k2
  simp only [strKey, ob, if_true, Option.getD_some, Option.isSome_some] at k1 k2
  clear hm hl1 hl2
  obtain rfl : sN = 0 := by simp only [sOf] at hs; omega
  obtain rfl : L = eN := by simp only [eOf] at he; omega
  have Hs := Lib.hid hs
  have He := Lib.hid he
  clear hs he
  have q1 : ((0 : Int) == (L : Int)) = false := by simp; omega
  have q2 : (0 : Int) ≤ (0 : Int) := by omega
  have q3 : (0 : Int) ≤ (L : Int) := by omega
  have q4 : (L : Int) ≤ (L : Int) := by omega
  have HV := Lib.hid hv
  clear hv
  go_enter Tryz.func37, Tryz.ntmps37
  go_wp2_with fail
  refine (update_empty _ _ _ _ _ _).mono ?_
  rintro e w' ⟨rfl, rfl⟩
  clear k1 k2
  go_wp2_with fail
  refine (allocated_none none _ _ (.inl ⟨rfl, rfl⟩)).mono ?_
  rintro e w1 ⟨rfl, hk1⟩
  have K1 : Hid (Kept w w1) := (kept_alloc w _).trans hk1
  clear hk1
  go_wp2_with fail
  refine (makeArray_any none L 0 L (by omega) (by omega) w1 (.inl ⟨rfl, rfl⟩) _ _ rfl rfl).mono ?_
  rintro e w2 ⟨b', rfl, hb', hrow, hkp2, _⟩
  have K2 : Hid (Kept w w2) := K1.out.trans (hkp2.below (Nat.le_refl _) (fun i e => by cases e))
  have hv2 := (rd_row HV.out).kept K2.out
  obtain ⟨w3, hcp, hrow3, ho3⟩ := run_copy_rd (P := Tryz.prog) w2 92 92 3 20 b' 0 L L (some ⟨b, 0, none⟩) L L L 20 (fun t => ib (z t)) _ Tryz.underlying92 sizeAny hrow hv2 (Nat.le_refl _) (by omega) (fun _ _ => rfl)
  have hbw : w.heap.size ≤ b' := by have := K1.out.size; omega
  have K3 : Hid (Kept w w3) := Below.trans K2.out (ho3.below hbw)
  have hr0 := hrow3.congr (g := fun t => if 0 ≤ t ∧ t < 0 then mk0 else ib (z t)) (fun t ht => by
    rw [if_pos ⟨Nat.zero_le _, by omega⟩, if_neg (by omega)]; rfl)
  have HR := Lib.hid hr0
  clear hrow hkp2 hv2 hrow3 ho3 hr0 hb'
  go_wp2_with fail
  clear hcp
  go_loopw [27] (fun i wr => ∃ q : Nat, 0 ≤ q ∧ q ≤ L ∧ i = .int .i64 q ∧ Hid (wr.rowIs b' 20 L (fun t => if 0 ≤ t ∧ t < q then mk0 else ib (z t)) ∧ Kept w wr)) (fun i _ => L - (intOf i).toNat)
  case atStart => exact ⟨0, Nat.le_refl _, by omega, rfl, HR.out, K3.out⟩
  case round =>
    obtain ⟨q, hq0, hq, rfl, HX⟩ := hrel
    by_cases hlt : q < L
    · obtain ⟨hrow, hk⟩ := HX.out
      have hd := hrow.cell (i := q) (by omega)
      have hz := hrow.frozen q
      obtain ⟨d0, hd0⟩ : ∃ d0, wr.cell? ⟨b', q, none⟩ = some d0 := ⟨_, hd⟩
      have hset := (hrow.set q mk0).congr (g := fun t => if 0 ≤ t ∧ t < q + 1 then mk0 else ib (z t)) (fun t ht => by
        by_cases e : t = q
        · subst e; rw [if_pos rfl, if_pos ⟨hq0, by omega⟩]
        · rw [if_neg e]
          by_cases e2 : 0 ≤ t ∧ t < q
          · rw [if_pos e2, if_pos ⟨e2.1, by omega⟩]
          · rw [if_neg e2, if_neg (fun h => e2 ⟨h.1, by omega⟩)])
      have hk2 := Below.setCell hk (p := ⟨b', q, none⟩) (show w.heap.size ≤ b' from hbw) mk0
      have HN := Lib.hid (And.intro hset hk2)
      have q7 : (q : Int) < (L : Int) := by omega
      have q8 : (q : Int) < (L : Int) := by omega
      clear hd hset hk2 hrow hk HX HR
      go_wp2
      go_roundw
      case rel => exact ⟨q + 1, by omega, by omega, by go_num, HN.out⟩
      case measure => simp [intOf]; omega
    · obtain rfl : q = L := by omega
      go_wp2
      go_ret2
      exact ⟨b', rfl, HX.out.1.congr fun t ht => by
        unfold gS
        split <;> rfl, hbw, HX.out.2⟩
set_option maxHeartbeats 4000000 in
theorem updateArraySlice_mark01 (b L : Nat) (z : Nat → Int) (ei : Int) (sN eN : Nat) (mb : Nat) (w : World) (hB : BndIs w mb none (some ei)) (_hoS : okB none) (hoE : okB (some ei)) (hs : sOf L none = sN) (he : eOf L sN (some ei) = eN) (hse : sN < eN) (hel : eN ≤ L) (hL : L ≤ 65536) (hv : w.rowIs b 20 L (fun t => ib (z t))) :
    Calls Tryz.prog 37 #[.slice (some ⟨b, 0, none⟩) L L, .map (some mb), .slice none 0 0, mk0, .map none] w fun e w' => ∃ b', e = .returned (.tuple #[.iface 92 (.slice (some ⟨b', 0, none⟩) L L), .nilIface]) ∧ w'.rowIs b' 20 L (fun t => mv (gS sN eN z t)) ∧ w.heap.size ≤ b' ∧ Kept w w' := by
  obtain ⟨l, hm, hl1, hl2⟩ := hB
  have k1 := run_lookup_assoc strKey (P := Tryz.prog) Tryz.underlying84 Tryz.underlying9 w hm kS _ (zeroAny w) true
  have k2 := run_lookup_assoc strKey (P := Tryz.prog) Tryz.underlying84 Tryz.underlying9 w hm kE _ (zeroAny w) true
  rw [hl1] at k1
  rw [hl2] at k2
  simp only [strKey, ob, if_true, Option.getD_some, Option.isSome_some] at k1 k2
  clear hm hl1 hl2
  obtain rfl : sN = 0 := by simp only [sOf] at hs; omega
  have Hs := Lib.hid hs
  have He := Lib.hid he
  clear hs he
  have q1 : ((0 : Int) == (eN : Int)) = false := by simp; omega
  have q2 : (0 : Int) ≤ (0 : Int) := by omega
  have q3 : (0 : Int) ≤ (eN : Int) := by omega
  have q4 : (eN : Int) ≤ (L : Int) := by omega
  have HV := Lib.hid hv
  clear hv
  go_enter Tryz.func37, Tryz.ntmps37
  go_wp2_with fail
  refine (toIntCeil_int _ w).mono ?_
  rintro e w' ⟨rfl, rfl⟩
  go_wp2_with fail
  refine (clamp_any _ (0 : Int) L w (hoE _ rfl).1 (by omega) (by omega)).mono ?_
  rintro e w' ⟨rfl, rfl⟩
  rw [show clampZ _ (0 : Int) (L : Int) = (eN : Int) from He.out]
  go_wp2_with fail
  refine (update_empty _ _ _ _ _ _).mono ?_
  rintro e w' ⟨rfl, rfl⟩
  clear k1 k2
  go_wp2_with fail
  refine (allocated_none none _ _ (.inl ⟨rfl, rfl⟩)).mono ?_
  rintro e w1 ⟨rfl, hk1⟩
  have K1 : Hid (Kept w w1) := (kept_alloc w _).trans hk1
  clear hk1
  go_wp2_with fail
  refine (makeArray_any none L 0 L (by omega) (by omega) w1 (.inl ⟨rfl, rfl⟩) _ _ rfl rfl).mono ?_
  rintro e w2 ⟨b', rfl, hb', hrow, hkp2, _⟩
  have K2 : Hid (Kept w w2) := K1.out.trans (hkp2.below (Nat.le_refl _) (fun i e => by cases e))
  have hv2 := (rd_row HV.out).kept K2.out
  obtain ⟨w3, hcp, hrow3, ho3⟩ := run_copy_rd (P := Tryz.prog) w2 92 92 3 20 b' 0 L L (some ⟨b, 0, none⟩) L L L 20 (fun t => ib (z t)) _ Tryz.underlying92 sizeAny hrow hv2 (Nat.le_refl _) (by omega) (fun _ _ => rfl)
  have hbw : w.heap.size ≤ b' := by have := K1.out.size; omega
  have K3 : Hid (Kept w w3) := Below.trans K2.out (ho3.below hbw)
  have hr0 := hrow3.congr (g := fun t => if 0 ≤ t ∧ t < 0 then mk0 else ib (z t)) (fun t ht => by
    rw [if_pos ⟨Nat.zero_le _, by omega⟩, if_neg (by omega)]; rfl)
  have HR := Lib.hid hr0
  clear hrow hkp2 hv2 hrow3 ho3 hr0 hb'
  go_wp2_with fail
  clear hcp
  go_loopw [27] (fun i wr => ∃ q : Nat, 0 ≤ q ∧ q ≤ eN ∧ i = .int .i64 q ∧ Hid (wr.rowIs b' 20 L (fun t => if 0 ≤ t ∧ t < q then mk0 else ib (z t)) ∧ Kept w wr)) (fun i _ => eN - (intOf i).toNat)
  case atStart => exact ⟨0, Nat.le_refl _, by omega, rfl, HR.out, K3.out⟩
  case round =>
    obtain ⟨q, hq0, hq, rfl, HX⟩ := hrel
    by_cases hlt : q < eN
    · obtain ⟨hrow, hk⟩ := HX.out
      have hd := hrow.cell (i := q) (by omega)
      have hz := hrow.frozen q
      obtain ⟨d0, hd0⟩ : ∃ d0, wr.cell? ⟨b', q, none⟩ = some d0 := ⟨_, hd⟩
      have hset := (hrow.set q mk0).congr (g := fun t => if 0 ≤ t ∧ t < q + 1 then mk0 else ib (z t)) (fun t ht => by
        by_cases e : t = q
        · subst e; rw [if_pos rfl, if_pos ⟨hq0, by omega⟩]
        · rw [if_neg e]
          by_cases e2 : 0 ≤ t ∧ t < q
          · rw [if_pos e2, if_pos ⟨e2.1, by omega⟩]
          · rw [if_neg e2, if_neg (fun h => e2 ⟨h.1, by omega⟩)])
      have hk2 := Below.setCell hk (p := ⟨b', q, none⟩) (show w.heap.size ≤ b' from hbw) mk0
      have HN := Lib.hid (And.intro hset hk2)
      have q7 : (q : Int) < (L : Int) := by omega
      have q8 : (q : Int) < (eN : Int) := by omega
      clear hd hset hk2 hrow hk HX HR
      go_wp2
      go_roundw
      case rel => exact ⟨q + 1, by omega, by omega, by go_num, HN.out⟩
      case measure => simp [intOf]; omega
    · obtain rfl : q = eN := by omega
      go_wp2
      go_ret2
      exact ⟨b', rfl, HX.out.1.congr fun t ht => by
        unfold gS
        split <;> rfl, hbw, HX.out.2⟩
set_option maxHeartbeats 4000000 in
theorem updateArraySlice_mark10 (b L : Nat) (z : Nat → Int) (si : Int) (sN eN : Nat) (mb : Nat) (w : World) (hB : BndIs w mb (some si) none) (hoS : okB (some si)) (_hoE : okB none) (hs : sOf L (some si) = sN) (he : eOf L sN none = eN) (hse : sN < eN) (hel : eN ≤ L) (hL : L ≤ 65536) (hv : w.rowIs b 20 L (fun t => ib (z t))) :
    Calls Tryz.prog 37 #[.slice (some ⟨b, 0, none⟩) L L, .map (some mb), .slice none 0 0, mk0, .map none] w fun e w' => ∃ b', e = .returned (.tuple #[.iface 92 (.slice (some ⟨b', 0, none⟩) L L), .nilIface]) ∧ w'.rowIs b' 20 L (fun t => mv (gS sN eN z t)) ∧ w.heap.size ≤ b' ∧ Kept w w' := by
  obtain ⟨l, hm, hl1, hl2⟩ := hB
  have k1 := run_lookup_assoc strKey (P := Tryz.prog) Tryz.underlying84 Tryz.underlying9 w hm kS _ (zeroAny w) true
  have k2 := run_lookup_assoc strKey (P := Tryz.prog) Tryz.underlying84 Tryz.underlying9 w hm kE _ (zeroAny w) true
  rw [hl1] at k1
  rw [hl2] at k2
  simp only [strKey, ob, if_true, Option.getD_some, Option.isSome_some] at k1 k2
  clear hm hl1 hl2
  obtain rfl : L = eN := by simp only [eOf] at he; omega
  have Hs := Lib.hid hs
  have He := Lib.hid he
  clear hs he
  have q1 : ((sN : Int) == (L : Int)) = false := by simp; omega
  have q2 : (0 : Int) ≤ (sN : Int) := by omega
  have q3 : (sN : Int) ≤ (L : Int) := by omega
  have q4 : (L : Int) ≤ (L : Int) := by omega
  have HV := Lib.hid hv
  clear hv
  go_enter Tryz.func37, Tryz.ntmps37
  go_wp2_with fail
  refine (toInt_int _ w).mono ?_
  rintro e w' ⟨rfl, rfl⟩
  go_wp2_with fail
  refine (clamp_any _ 0 L w (hoS _ rfl).1 (by omega) (by omega)).mono ?_
  rintro e w' ⟨rfl, rfl⟩
  rw [show clampZ _ 0 (L : Int) = (sN : Int) from Hs.out]
  go_wp2_with fail
  refine (update_empty _ _ _ _ _ _).mono ?_
  rintro e w' ⟨rfl, rfl⟩
  clear k1 k2
  go_wp2_with fail
  refine (allocated_none none _ _ (.inl ⟨rfl, rfl⟩)).mono ?_
  rintro e w1 ⟨rfl, hk1⟩
  have K1 : Hid (Kept w w1) := (kept_alloc w _).trans hk1
  clear hk1
  go_wp2_with fail
  refine (makeArray_any none L 0 L (by omega) (by omega) w1 (.inl ⟨rfl, rfl⟩) _ _ rfl rfl).mono ?_
  rintro e w2 ⟨b', rfl, hb', hrow, hkp2, _⟩
  have K2 : Hid (Kept w w2) := K1.out.trans (hkp2.below (Nat.le_refl _) (fun i e => by cases e))
  have hv2 := (rd_row HV.out).kept K2.out
  obtain ⟨w3, hcp, hrow3, ho3⟩ := run_copy_rd (P := Tryz.prog) w2 92 92 3 20 b' 0 L L (some ⟨b, 0, none⟩) L L L 20 (fun t => ib (z t)) _ Tryz.underlying92 sizeAny hrow hv2 (Nat.le_refl _) (by omega) (fun _ _ => rfl)
  have hbw : w.heap.size ≤ b' := by have := K1.out.size; omega
  have K3 : Hid (Kept w w3) := Below.trans K2.out (ho3.below hbw)
  have hr0 := hrow3.congr (g := fun t => if sN ≤ t ∧ t < sN then mk0 else ib (z t)) (fun t ht => by
    rw [if_pos ⟨Nat.zero_le _, by omega⟩, if_neg (by omega)]; rfl)
  have HR := Lib.hid hr0
  clear hrow hkp2 hv2 hrow3 ho3 hr0 hb'
  go_wp2_with fail
  clear hcp
  go_loopw [27] (fun i wr => ∃ q : Nat, sN ≤ q ∧ q ≤ L ∧ i = .int .i64 q ∧ Hid (wr.rowIs b' 20 L (fun t => if sN ≤ t ∧ t < q then mk0 else ib (z t)) ∧ Kept w wr)) (fun i _ => L - (intOf i).toNat)
  case atStart => exact ⟨sN, Nat.le_refl _, by omega, rfl, HR.out, K3.out⟩
  case round =>
    obtain ⟨q, hq0, hq, rfl, HX⟩ := hrel
    by_cases hlt : q < L
    · obtain ⟨hrow, hk⟩ := HX.out
      have hd := hrow.cell (i := q) (by omega)
      have hz := hrow.frozen q
      obtain ⟨d0, hd0⟩ : ∃ d0, wr.cell? ⟨b', q, none⟩ = some d0 := ⟨_, hd⟩
      have hset := (hrow.set q mk0).congr (g := fun t => if sN ≤ t ∧ t < q + 1 then mk0 else ib (z t)) (fun t ht => by
        by_cases e : t = q
        · subst e; rw [if_pos rfl, if_pos ⟨hq0, by omega⟩]
        · rw [if_neg e]
          by_cases e2 : sN ≤ t ∧ t < q
          · rw [if_pos e2, if_pos ⟨e2.1, by omega⟩]
          · rw [if_neg e2, if_neg (fun h => e2 ⟨h.1, by omega⟩)])
      have hk2 := Below.setCell hk (p := ⟨b', q, none⟩) (show w.heap.size ≤ b' from hbw) mk0
      have HN := Lib.hid (And.intro hset hk2)
      have q7 : (q : Int) < (L : Int) := by omega
      have q8 : (q : Int) < (L : Int) := by omega
      clear hd hset hk2 hrow hk HX HR
      go_wp2
      go_roundw
      case rel => exact ⟨q + 1, by omega, by omega, by go_num, HN.out⟩
      case measure => simp [intOf]; omega
    · obtain rfl : q = L := by omega
      go_wp2
      go_ret2
      exact ⟨b', rfl, HX.out.1.congr fun t ht => by
        unfold gS
        split <;> rfl, hbw, HX.out.2⟩
set_option maxHeartbeats 4000000 in
theorem updateArraySlice_mark11 (b L : Nat) (z : Nat → Int) (si : Int) (ei : Int) (sN eN : Nat) (mb : Nat) (w : World) (hB : BndIs w mb (some si) (some ei)) (hoS : okB (some si)) (hoE : okB (some ei)) (hs : sOf L (some si) = sN) (he : eOf L sN (some ei) = eN) (hse : sN < eN) (hel : eN ≤ L) (hL : L ≤ 65536) (hv : w.rowIs b 20 L (fun t => ib (z t))) :
    Calls Tryz.prog 37 #[.slice (some ⟨b, 0, none⟩) L L, .map (some mb), .slice none 0 0, mk0, .map none] w fun e w' => ∃ b', e = .returned (.tuple #[.iface 92 (.slice (some ⟨b', 0, none⟩) L L), .nilIface]) ∧ w'.rowIs b' 20 L (fun t => mv (gS sN eN z t)) ∧ w.heap.size ≤ b' ∧ Kept w w' := by
  obtain ⟨l, hm, hl1, hl2⟩ := hB
  have k1 := run_lookup_assoc strKey (P := Tryz.prog) Tryz.underlying84 Tryz.underlying9 w hm kS _ (zeroAny w) true
  have k2 := run_lookup_assoc strKey (P := Tryz.prog) Tryz.underlying84 Tryz.underlying9 w hm kE _ (zeroAny w) true
  rw [hl1] at k1
  rw [hl2] at k2
  simp only [strKey, ob, if_true, Option.getD_some, Option.isSome_some] at k1 k2
  clear hm hl1 hl2
  have Hs := Lib.hid hs
  have He := Lib.hid he
  clear hs he
  have q1 : ((sN : Int) == (eN : Int)) = false := by simp; omega
  have q2 : (0 : Int) ≤ (sN : Int) := by omega
  have q3 : (sN : Int) ≤ (eN : Int) := by omega
  have q4 : (eN : Int) ≤ (L : Int) := by omega
  have HV := Lib.hid hv
  clear hv
  go_enter Tryz.func37, Tryz.ntmps37
  go_wp2_with fail
  refine (toInt_int _ w).mono ?_
  rintro e w' ⟨rfl, rfl⟩
  go_wp2_with fail
  refine (clamp_any _ 0 L w (hoS _ rfl).1 (by omega) (by omega)).mono ?_
  rintro e w' ⟨rfl, rfl⟩
  rw [show clampZ _ 0 (L : Int) = (sN : Int) from Hs.out]
  go_wp2_with fail
  refine (toIntCeil_int _ w).mono ?_
  rintro e w' ⟨rfl, rfl⟩
  go_wp2_with fail
  refine (clamp_any _ (sN : Int) L w (hoE _ rfl).1 (by omega) (by omega)).mono ?_
  rintro e w' ⟨rfl, rfl⟩
  rw [show clampZ _ (sN : Int) (L : Int) = (eN : Int) from He.out]
  go_wp2_with fail
  refine (update_empty _ _ _ _ _ _).mono ?_
  rintro e w' ⟨rfl, rfl⟩
  clear k1 k2
  go_wp2_with fail
  refine (allocated_none none _ _ (.inl ⟨rfl, rfl⟩)).mono ?_
  rintro e w1 ⟨rfl, hk1⟩
  have K1 : Hid (Kept w w1) := (kept_alloc w _).trans hk1
  clear hk1
  go_wp2_with fail
  refine (makeArray_any none L 0 L (by omega) (by omega) w1 (.inl ⟨rfl, rfl⟩) _ _ rfl rfl).mono ?_
  rintro e w2 ⟨b', rfl, hb', hrow, hkp2, _⟩
  have K2 : Hid (Kept w w2) := K1.out.trans (hkp2.below (Nat.le_refl _) (fun i e => by cases e))
  have hv2 := (rd_row HV.out).kept K2.out
  obtain ⟨w3, hcp, hrow3, ho3⟩ := run_copy_rd (P := Tryz.prog) w2 92 92 3 20 b' 0 L L (some ⟨b, 0, none⟩) L L L 20 (fun t => ib (z t)) _ Tryz.underlying92 sizeAny hrow hv2 (Nat.le_refl _) (by omega) (fun _ _ => rfl)
  have hbw : w.heap.size ≤ b' := by have := K1.out.size; omega
  have K3 : Hid (Kept w w3) := Below.trans K2.out (ho3.below hbw)
  have hr0 := hrow3.congr (g := fun t => if sN ≤ t ∧ t < sN then mk0 else ib (z t)) (fun t ht => by
    rw [if_pos ⟨Nat.zero_le _, by omega⟩, if_neg (by omega)]; rfl)
  have HR := Lib.hid hr0
  clear hrow hkp2 hv2 hrow3 ho3 hr0 hb'
  go_wp2_with fail
  clear hcp
  go_loopw [27] (fun i wr => ∃ q : Nat, sN ≤ q ∧ q ≤ eN ∧ i = .int .i64 q ∧ Hid (wr.rowIs b' 20 L (fun t => if sN ≤ t ∧ t < q then mk0 else ib (z t)) ∧ Kept w wr)) (fun i _ => eN - (intOf i).toNat)
  case atStart => exact ⟨sN, Nat.le_refl _, by omega, rfl, HR.out, K3.out⟩
  case round =>
    obtain ⟨q, hq0, hq, rfl, HX⟩ := hrel
    by_cases hlt : q < eN
    · obtain ⟨hrow, hk⟩ := HX.out
      have hd := hrow.cell (i := q) (by omega)
      have hz := hrow.frozen q
      obtain ⟨d0, hd0⟩ : ∃ d0, wr.cell? ⟨b', q, none⟩ = some d0 := ⟨_, hd⟩
      have hset := (hrow.set q mk0).congr (g := fun t => if sN ≤ t ∧ t < q + 1 then mk0 else ib (z t)) (fun t ht => by
        by_cases e : t = q
        · subst e; rw [if_pos rfl, if_pos ⟨hq0, by omega⟩]
        · rw [if_neg e]
          by_cases e2 : sN ≤ t ∧ t < q
          · rw [if_pos e2, if_pos ⟨e2.1, by omega⟩]
          · rw [if_neg e2, if_neg (fun h => e2 ⟨h.1, by omega⟩)])
      have hk2 := Below.setCell hk (p := ⟨b', q, none⟩) (show w.heap.size ≤ b' from hbw) mk0
      have HN := Lib.hid (And.intro hset hk2)
      have q7 : (q : Int) < (L : Int) := by omega
      have q8 : (q : Int) < (eN : Int) := by omega
      clear hd hset hk2 hrow hk HX HR
      go_wp2
      go_roundw
      case rel => exact ⟨q + 1, by omega, by omega, by go_num, HN.out⟩
      case measure => simp [intOf]; omega
    · obtain rfl : q = eN := by omega
      go_wp2
      go_ret2
      exact ⟨b', rfl, HX.out.1.congr fun t ht => by
        unfold gS
        split <;> rfl, hbw, HX.out.2⟩
theorem updateArraySlice_mark (b L : Nat) (z : Nat → Int) (S E : Option Int) (sN eN : Nat) (mb : Nat) (w : World) (hB : BndIs w mb S E) (hoS : okB S) (hoE : okB E) (hs : sOf L S = sN) (he : eOf L sN E = eN) (hse : sN < eN) (hel : eN ≤ L) (hL : L ≤ 65536) (hv : w.rowIs b 20 L (fun t => ib (z t))) :
    Calls Tryz.prog 37 #[.slice (some ⟨b, 0, none⟩) L L, .map (some mb), .slice none 0 0, mk0, .map none] w fun e w' => ∃ b', e = .returned (.tuple #[.iface 92 (.slice (some ⟨b', 0, none⟩) L L), .nilIface]) ∧ w'.rowIs b' 20 L (fun t => mv (gS sN eN z t)) ∧ w.heap.size ≤ b' ∧ Kept w w' := by
  cases S <;> cases E
  · exact updateArraySlice_mark00 b L z sN eN mb w hB hoS hoE hs he hse hel hL hv
  · exact updateArraySlice_mark01 b L z _ sN eN mb w hB hoS hoE hs he hse hel hL hv
  · exact updateArraySlice_mark10 b L z _ sN eN mb w hB hoS hoE hs he hse hel hL hv
  · exact updateArraySlice_mark11 b L z _ _ sN eN mb w hB hoS hoE hs he hse hel hL hv
end Go.Proofs.YtdlmdmpkjhnbmaaGreatDoor
