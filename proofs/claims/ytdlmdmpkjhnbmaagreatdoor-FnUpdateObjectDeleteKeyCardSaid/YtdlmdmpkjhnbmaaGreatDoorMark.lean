/- The contracts of update at the empty marker (delpaths's road), and of deleteEmpty. -/
import Derived.Test.YtdlmdmpkjhnbmaaGreatDoorOwn
namespace Go.Proofs.YtdlmdmpkjhnbmaaGreatDoor
open Go.RowKit Go.Gq
attribute [local go_sem] Lib.run_eql_slice_nil
set_option maxRecDepth 100000
/-- The empty marker. -/
abbrev mk0 : Value := .iface 98 (.agg #[])
/-- An int as an any. -/
abbrev ib (z : Int) : Value := .iface 3 (.int .i64 z)
/-- An int, or the marker. -/
def mv : Option Int → Value
  | none => mk0
  | some z => ib z
/-- What is kept of the first t. -/
def kl (g : Nat → Option Int) (t : Nat) : List Int := (List.range t).filterMap g
theorem kl_none {g : Nat → Option Int} {t : Nat} (h : g t = none) : kl g (t + 1) = kl g t := by simp [kl, List.range_succ, h]
theorem kl_some {g : Nat → Option Int} {t : Nat} {z : Int} (h : g t = some z) : kl g (t + 1) = kl g t ++ [z] := by simp [kl, List.range_succ, h]
theorem kl_len (g : Nat → Option Int) (t : Nat) : (kl g t).length ≤ t := by
  have := List.length_filterMap_le g (List.range t)
  simpa [kl] using this
theorem getD_app_lt {l : List Int} {z : Int} {s : Nat} (h : s < l.length) : (l ++ [z]).getD s 0 = l.getD s 0 := by simp [List.getD_eq_getElem?_getD, List.getElem?_append_left h]
theorem getD_app_eq {l : List Int} {z : Int} : (l ++ [z]).getD l.length 0 = z := by simp [List.getD_eq_getElem?_getD]
/-- An index outside the array: the marker marks nothing. -/
theorem updateArrayIndex_out (x : Addr) (L vc : Nat) (i : Int) (pa : Option Addr) (pc : Nat) (ma : Option Nat) (w : World) (hi0 : -9223372036854775808 ≤ i) (hi1 : i ≤ 9223372036854775807) (ho : (i < 0 ∧ i + L < 0) ∨ (L : Int) ≤ i) (hL : L ≤ 1073741824) :
    Calls Tryz.prog 59 #[.slice (some x) L vc, .int .i64 i, .slice pa 0 pc, mk0, .map ma] w fun e w' => e = .returned (.tuple #[.iface 92 (.slice (some x) L vc), .nilIface]) ∧ w' = w := by
  rcases ho with ⟨h1, h2⟩ | h1
  · have hc : clampZ i (-1) L = -1 := by unfold clampZ; (repeat' split) <;> omega
    have HC := Lib.hid hc
    clear hc
    go_enter Tryz.func59, Tryz.ntmps59
    go_wp2_with fail
    refine (clamp_any i (-1) L _ hi0 (by omega) (by omega)).mono ?_
    rintro e w' ⟨rfl, rfl⟩
    rw [HC.out]
    go_wp2_with fail
    go_ret2
    exact ⟨rfl, rfl⟩
  · have hc : clampZ i (-1) L = L := by unfold clampZ; (repeat' split) <;> omega
    have HC := Lib.hid hc
    clear hc
    go_enter Tryz.func59, Tryz.ntmps59
    go_wp2_with fail
    refine (clamp_any i (-1) L _ (by omega) (by omega) (by omega)).mono ?_
    rintro e w' ⟨rfl, rfl⟩
    rw [HC.out]
    go_wp2_with fail
    go_ret2
    exact ⟨rfl, rfl⟩
theorem updateArrayIndex_out_nil (i : Int) (pa : Option Addr) (pc : Nat) (ma : Option Nat) (w : World) (hi0 : -9223372036854775808 ≤ i) (hi1 : i ≤ 9223372036854775807) :
    Calls Tryz.prog 59 #[.slice none 0 0, .int .i64 i, .slice pa 0 pc, mk0, .map ma] w fun e w' => e = .returned (.tuple #[.nilIface, .nilIface]) ∧ w' = w := by
  by_cases h1 : i < 0
  · have hc : clampZ i (-1) (0 : Nat) = -1 := by unfold clampZ; (repeat' split) <;> omega
    have HC := Lib.hid hc
    clear hc
    go_enter Tryz.func59, Tryz.ntmps59
    go_wp2_with fail
    refine (clamp_any i (-1) (0 : Nat) _ hi0 (by omega) (by omega)).mono ?_
    rintro e w' ⟨rfl, rfl⟩
    rw [HC.out]
    go_wp2_with fail
    go_ret2
    exact ⟨rfl, rfl⟩
  · have hc : clampZ i (-1) (0 : Nat) = (0 : Nat) := by unfold clampZ; (repeat' split) <;> omega
    have HC := Lib.hid hc
    clear hc
    go_enter Tryz.func59, Tryz.ntmps59
    go_wp2_with fail
    refine (clamp_any i (-1) (0 : Nat) _ hi0 (by omega) (by omega)).mono ?_
    rintro e w' ⟨rfl, rfl⟩
    rw [HC.out]
    go_wp2_with fail
    go_ret2
    exact ⟨rfl, rfl⟩
/-- deleteEmpty: an int stays. -/
theorem deleteEmpty_int (z : Int) (w : World) : Calls Tryz.prog 40 #[ib z] w fun e w' => e = .returned (ib z) ∧ w' = w := by
  go_enter Tryz.func40, Tryz.ntmps40
  go_wp2
  go_ret
  exact ⟨rfl, rfl⟩
theorem deleteEmpty_nil (w : World) : Calls Tryz.prog 40 #[.nilIface] w fun e w' => e = .returned .nilIface ∧ w' = w := by
  go_enter Tryz.func40, Tryz.ntmps40
  go_wp2
  go_ret
  exact ⟨rfl, rfl⟩
set_option maxHeartbeats 4000000 in
/-- deleteEmpty: of an array, what is not marked, in its order, in place. -/
theorem deleteEmpty_arr (b n : Nat) (g : Nat → Option Int) (w : World) (hn : n ≤ 1048576) (hv : w.rowIs b 20 n (fun t => mv (g t))) :
    Calls Tryz.prog 40 #[.iface 92 (.slice (some ⟨b, 0, none⟩) n n)] w fun e w' => e = .returned (.iface 92 (.slice (some ⟨b, 0, none⟩) (kl g n).length n)) ∧
      (∃ h, w'.rowIs b 20 n h ∧ ∀ s, s < (kl g n).length → h s = ib ((kl g n).getD s 0)) ∧ Keep (fun x => x = b) w w' := by
  have hkn := kl_len g n
  go_enter Tryz.func40, Tryz.ntmps40
  go_wp2
  go_loopw [8, 45] (fun c i wr => ∃ t : Nat, t ≤ n ∧ i = .int .i64 t ∧ c = .int .i64 (kl g t).length ∧ Hid (∃ h, wr.rowIs b 20 n h ∧ (∀ s, s < (kl g t).length → h s = ib ((kl g t).getD s 0)) ∧ (∀ s, t ≤ s → s < n → h s = mv (g s)) ∧ Keep (fun x => x = b) w wr)) (fun _ i _ => n - (intOf i).toNat)
  case atStart => exact ⟨0, Nat.zero_le _, rfl, rfl, _, hv, fun s hs => absurd hs (Nat.not_lt_zero _), fun s _ _ => rfl, Keep.refl _ _⟩
  case round =>
    obtain ⟨t, ht, rfl, rfl, HH⟩ := hrel
    have hkt := kl_len g t
    obtain ⟨j, hj⟩ : ∃ j, j = (kl g t).length := ⟨_, rfl⟩
    rw [← hj] at hkt ⊢
    by_cases hlt : t < n
    · obtain ⟨h, hrow, hlo, hhi, hkp⟩ := HH.out
      have hc := hrow.cell hlt
      rw [hhi t (Nat.le_refl _) hlt] at hc
      cases hg : g t with
      | none =>
        rw [hg] at hc
        simp only [mv] at hc
        have HL : Hid (kl g (t + 1) = kl g t) := kl_none hg
        have HJ := Lib.hid hj
        clear hj hrow hlo hhi hkp hg
        go_wp2
        go_roundw
        case rel =>
          obtain ⟨h, hrow, hlo, hhi, hkp⟩ := HH.out
          refine ⟨t + 1, by omega, by go_num, by rw [HL.out, ← HJ.out], h, hrow, ?_, fun s h1 h2 => hhi s (by omega) h2, hkp⟩
          rw [HL.out]; exact hlo
        case measure => simp [intOf]; omega
      | some z =>
        rw [hg] at hc
        simp only [mv] at hc
        have HL : Hid (kl g (t + 1) = kl g t ++ [z]) := kl_some hg
        have HJ := Lib.hid hj
        have hjt : j < n := by omega
        have hd := hrow.cell hjt
        have hz := hrow.frozen j
        have hset := hrow.set j (ib z)
        have hk2 : Keep (fun x => x = b) w (wr.setCell ⟨b, j, none⟩ (ib z)) := hkp.trans ⟨rfl, rfl, rfl, by simp, fun i _ hn => Below.heap_setCell _ _ _ _ fun e => hn e⟩
        have HN : Hid (∃ h, (wr.setCell ⟨b, j, none⟩ (ib z)).rowIs b 20 n h ∧ (∀ s, s < (kl g (t + 1)).length → h s = ib ((kl g (t + 1)).getD s 0)) ∧ (∀ s, t + 1 ≤ s → s < n → h s = mv (g s)) ∧ Keep (fun x => x = b) w (wr.setCell ⟨b, j, none⟩ (ib z))) := by
          refine ⟨_, hset, fun s hs => ?_, fun s h1 h2 => ?_, hk2⟩
          · rw [HL.out] at hs ⊢
            rw [List.length_append, List.length_singleton, ← hj] at hs
            by_cases e : s = j
            · subst e
              simp only [if_true]
              rw [hj, getD_app_eq]
            · simp only [if_neg e]
              rw [getD_app_lt (by omega)]
              exact hlo s (by omega)
          · have e : ¬ s = j := by omega
            simp only [if_neg e]
            exact hhi s (by omega) h2
        clear hj hrow hlo hhi hkp hg hset hk2 HH
        go_wp2_with fail
        refine (deleteEmpty_int z _).mono ?_
        rintro e w1 ⟨rfl, rfl⟩
        go_wp2
        go_roundw
        case rel =>
          refine ⟨t + 1, by omega, by go_num, ?_, HN.out⟩
          rw [HL.out, List.length_append, List.length_singleton, ← HJ.out]; go_num
        case measure => simp [intOf]; omega
    · have : t = n := by omega
      subst this
      have HJ := Lib.hid hj
      clear hj
      go_wp2
      go_loopw [11] (fun i wr => ∃ q : Nat, j ≤ q ∧ q ≤ t ∧ i = .int .i64 q ∧ Hid (∃ h, wr.rowIs b 20 t h ∧ (∀ s, s < j → h s = ib ((kl g t).getD s 0)) ∧ Keep (fun x => x = b) w wr)) (fun i _ => t - (intOf i).toNat)
      case atStart =>
        obtain ⟨h, hrow, hlo, hhi, hkp⟩ := HH.out
        exact ⟨j, Nat.le_refl _, hkt, rfl, h, hrow, fun s hs => hlo s (by rw [← HJ.out]; exact hs), hkp⟩
      case round =>
        obtain ⟨q, hjq, hq, rfl, HR⟩ := hrel
        by_cases hlt2 : q < t
        · obtain ⟨h, hrow, hlo, hkp⟩ := HR.out
          have hd := hrow.cell hlt2
          have hz := hrow.frozen q
          have hset := hrow.set q .nilIface
          have hk2 : Keep (fun x => x = b) w (wr.setCell ⟨b, q, none⟩ .nilIface) := hkp.trans ⟨rfl, rfl, rfl, by simp, fun i _ hn => Below.heap_setCell _ _ _ _ fun e => hn e⟩
          have HN : Hid (∃ h, (wr.setCell ⟨b, q, none⟩ .nilIface).rowIs b 20 t h ∧ (∀ s, s < j → h s = ib ((kl g t).getD s 0)) ∧ Keep (fun x => x = b) w (wr.setCell ⟨b, q, none⟩ .nilIface)) := by
            refine ⟨_, hset, fun s hs => ?_, hk2⟩
            have e : ¬ s = q := by omega
            simp only [if_neg e]
            exact hlo s hs
          clear hrow hlo hkp hset hk2 HR HH
          go_wp2
          go_roundw
          case rel => exact ⟨q + 1, by omega, by omega, by go_num, HN.out⟩
          case measure => simp [intOf]; omega
        · clear HH
          have q9 : (j : Int) ≤ (t : Int) := by omega
          go_wp2
          go_ret
          obtain ⟨h, hrow, hlo, hkp⟩ := HR.out
          refine ⟨by rw [← HJ.out]; rfl, ⟨h, hrow, fun s hs => hlo s (by rw [HJ.out]; exact hs)⟩, hkp⟩
end Go.Proofs.YtdlmdmpkjhnbmaaGreatDoor
