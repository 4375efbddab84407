/- The contracts of the law's own helpers: zzLastValue, zzDistinct, zzArrayOK. -/
import Derived.Test.YtdhgaogjdjhokaaGreatDoorAns
namespace Go.Proofs.YtdhgaogjdjhokaaGreatDoor
open Go.RowKit Go.Gq
set_option maxRecDepth 100000
theorem beq_yes (s : ByteArray) : (s.toList == s.toList) = true := by simp
theorem beq_no {s t : ByteArray} (h : s ≠ t) : (s.toList == t.toList) = false := by
  rw [beq_eq_false_iff_ne]
  intro e
  rw [ByteArray.toList_eq, ByteArray.toList_eq] at e
  apply h
  cases s; cases t
  simp at e
  rw [e]
set_option maxHeartbeats 1000000 in
theorem zzLastValue_any (a0 : Option Addr) (n c0 : Nat) (a1 : Option Addr) (c1 : Nat) (xs : List Int) (ss : List ByteArray) (k : ByteArray) (w : World) (h0 : Rd w a0 n (vi xs)) (h1 : Rd w a1 n (vs ss)) (hn : n ≤ 65536) :
    Calls Tryz.prog 34 #[.slice a0 n c0, .slice a1 n c1, .string k] w fun e w' => e = .returned (.tuple #[.int .i64 (iv (lkp k (objL ss xs n))), .bool (lkp k (objL ss xs n)).isSome]) ∧ w = w' := by
  obtain ⟨i0, f0, hfin⟩ : ∃ (i0 : Int) (f0 : Bool), i0 = iv (lkp k (objL ss xs n)) ∧ f0 = (lkp k (objL ss xs n)).isSome := ⟨_, _, rfl, rfl⟩
  rw [← hfin.1, ← hfin.2]
  have Hfin := Lib.hid hfin
  clear hfin
  go_enter Tryz.func34, Tryz.ntmps34
  go_wp2
  go_loop [8] (fun j => ∃ r : Nat, r ≤ n ∧ j = .int .i64 ((r : Int) - 1) ∧ Hid (lkp k (objL ss xs n) = lkp k (objL ss xs r))) (fun j => (intOf j + 1).toNat)
  case atStart => exact ⟨n, Nat.le_refl _, rfl, rfl⟩
  case round =>
    obtain ⟨r, hr, rfl, hl⟩ := hrel
    by_cases hz : r = 0
    · subst hz
      go_wp2
      go_ret2
      have h1 := Hfin.out
      rw [hl.out] at h1
      exact ⟨by rw [h1.1, h1.2]; rfl, rfl⟩
    · obtain ⟨q, rfl⟩ : ∃ q, r = q + 1 := ⟨r - 1, by omega⟩
      obtain ⟨b, off, rfl, hc⟩ := h1.at (k := q) (by omega)
      obtain ⟨b', off', rfl, hc'⟩ := h0.at (k := q) (by omega)
      obtain ⟨s, hs⟩ : ∃ s, s = ss.getD q ByteArray.empty := ⟨_, rfl⟩
      obtain ⟨z, hz'⟩ : ∃ z, z = xs.getD q 0 := ⟨_, rfl⟩
      simp only [vs, vi, ← hs, ← hz'] at hc hc'
      have hstep : lkp k (objL ss xs (q + 1)) = if k = s then some (ia z) else lkp k (objL ss xs q) := by rw [objL, lkp_aput, ← hs, ← hz']
      have Hstep := Lib.hid hstep
      have e1 : ((q + 1 : Nat) : Int) - 1 = (q : Int) := by omega
      rw [e1]
      clear hstep hs hz' h0 h1 e1
      by_cases e : k = s
      · have h1 := Hfin.out
        rw [hl.out, Hstep.out, if_pos e] at h1
        have HF : Hid (i0 = z ∧ f0 = true) := ⟨h1.1, h1.2⟩
        subst e
        have hb := beq_yes k
        clear h1 Hstep Hfin hl
        go_wp2
        go_ret2
        obtain ⟨h1, h2⟩ := HF.out
        simp [h1, h2]
      · have hb : (s.toList == k.toList) = false := beq_no (Ne.symm e)
        have HE := Lib.hid e
        clear e
        go_wp2
        go_round
        case rel => exact ⟨q, by omega, rfl, hl.out.trans (Hstep.out.trans (if_neg HE.out))⟩
        case measure => simp [intOf]
theorem objL_has (ss : List ByteArray) (xs : List Int) : ∀ (k q : Nat), q < k → (lkp (ss.getD q ByteArray.empty) (objL ss xs k)).isSome = true
  | 0, q, h => by omega
  | k + 1, q, h => by
    rw [objL, lkp_aput]
    by_cases e : ss.getD q ByteArray.empty = ss.getD k ByteArray.empty
    · rw [if_pos e]; simp
    · rw [if_neg e]
      have : q ≠ k := fun h => e (by rw [h])
      exact objL_has ss xs k q (by omega)
set_option maxHeartbeats 2000000 in
theorem zzDistinct_any (a1 : Option Addr) (n c1 : Nat) (xs : List Int) (ss : List ByteArray) (w : World) (h1 : Rd w a1 n (vs ss)) (hn : n ≤ 65536) :
    Calls Tryz.prog 33 #[.slice a1 n c1] w fun e w' => e = .returned (.int .i64 (objL ss xs n).length) ∧ ∃ m, w' = w.drewN m := by
  go_enter Tryz.func33, Tryz.ntmps33
  go_wp2
  go_loopw [3, 4] (fun c i wr => ∃ (k d : Nat), k ≤ n ∧ d ≤ k ∧ i = .int .i64 k ∧ c = .int .i64 d ∧ Hid (d = (objL ss xs k).length) ∧ ∃ m, wr = w.drewN m) (fun _ i _ => n - (intOf i).toNat)
  case atStart => exact ⟨0, 0, Nat.zero_le _, Nat.le_refl _, rfl, rfl, rfl, 0, rfl⟩
  case round =>
    obtain ⟨k, d, hk, hd, rfl, rfl, hdl, m, rfl⟩ := hrel
    by_cases hlt : k < n
    · obtain ⟨b, off, rfl, hc⟩ := h1.at hlt
      obtain ⟨s, hs⟩ : ∃ s, s = ss.getD k ByteArray.empty := ⟨_, rfl⟩
      simp only [vs, ← hs] at hc
      go_wp2
      go_loopw [5, 6] (fun f j wr => ∃ (q : Nat) (m : Nat), q ≤ k ∧ j = .int .i64 q ∧ f = .bool true ∧ Hid (lkp s (objL ss xs q) = none) ∧ wr = w.drewN m) (fun _ j _ => k - (intOf j).toNat)
      case atStart => exact ⟨0, m, Nat.zero_le _, rfl, rfl, rfl, rfl⟩
      case round =>
        obtain ⟨q, m', hq, rfl, rfl, hl, rfl⟩ := hrel
        by_cases hqk : q < k
        · obtain ⟨b2, off2, e2, hc2⟩ := h1.at (k := q) (by omega)
          injection e2 with e2
          injection e2 with e3 e4
          subst e3 e4
          obtain ⟨t, ht⟩ : ∃ t, t = ss.getD q ByteArray.empty := ⟨_, rfl⟩
          simp only [vs, ← ht] at hc2
          have q0 : (0 : Int) ≤ (q : Int) := by omega
          have q1 : (q : Int) < (n : Int) := by omega
          have q2 : (0 : Int) ≤ (k : Int) := by omega
          have q3 : (k : Int) < (n : Int) := by omega
          have Hs := Lib.hid hs
          have Ht := Lib.hid ht
          have H1 := Lib.hid h1
          clear hs ht h1
          by_cases e : t = s
          · subst e
            have hb := beq_yes t
            have HL : Hid (d = (objL ss xs (k + 1)).length) := by
              have h5 := objL_has ss xs k q hqk
              rw [← Ht.out] at h5
              show d = _
              rw [objL, length_aput, ← Hs.out, if_pos h5]; exact hdl.out
            go_wp2_with fail
            go_quiet (fail)
            go_wp2
            go_roundw
            case rel => exact ⟨k + 1, d, by omega, by omega, by go_num, rfl, HL, _, rfl⟩
            case measure => simp [intOf]; omega
          · have hb : (t.toList == s.toList) = false := beq_no e
            have HL : Hid (lkp s (objL ss xs (q + 1)) = none) := by
              show _ = _
              rw [objL, lkp_aput, ← Ht.out, if_neg (Ne.symm e)]; exact hl.out
            clear e
            go_wp2_with fail
            go_quiet (fail)
            go_wp2
            go_roundw
            case rel => exact ⟨q + 1, _, by omega, by go_num, rfl, HL, rfl⟩
            case measure => simp [intOf]; omega
        · have hqk' : q = k := by omega
          subst hqk'
          have HL : Hid (d + 1 = (objL ss xs (q + 1)).length) := by
            show _ = _
            rw [objL, length_aput, ← hs, hl.out, hdl.out]; rfl
          go_wp2
          go_roundw
          case rel => exact ⟨q + 1, d + 1, by omega, by omega, by go_num, by go_num, HL, _, rfl⟩
          case measure => simp [intOf]; omega
    · have : k = n := by omega
      subst this
      go_wp2
      go_ret
      exact ⟨ret_int (by rw [← hdl.out]), m, rfl⟩
end Go.Proofs.YtdhgaogjdjhokaaGreatDoor
