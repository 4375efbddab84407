/- The walk of FnUpdateArrayIndexDelete. -/
import Derived.Test.YtmfebiipalaihaaGreatDoorInts
import Derived.BigQuiet
import Derived.Deep.QuietTactic
namespace Go.Proofs.YtmfebiipalaihaaGreatDoor
open Go.RowKit Go.Gq
attribute [local go_sem] Lib.run_eql_slice_nil
set_option maxRecDepth 100000
theorem zzBytes_FnUpdateArrayIndexDelete_any (a0 : Option Addr) (n0 c0 : Nat) (i : Int) (w : World) (h0 : n0 ≤ 9223372036854775807) :
    Calls Tryz.prog 10 #[.slice a0 n0 c0, .int .i64 i] w (SomeBool w) := by
  by_cases g0 : n0 ≤ 1048576
  rotate_left
  · go_enter Tryz.func10, Tryz.ntmps10
    go_wp2
    go_ret
    exact ⟨false, rfl, rfl⟩
  go_enter Tryz.func10, Tryz.ntmps10
  go_wp2
  go_ret
  exact ⟨true, rfl, rfl⟩
/-- The position that an index names. -/
def normI (n : Nat) (i : Int) : Int := if i < 0 then i + n else i
/-- The array with the place that i names marked. -/
def gI (n : Nat) (i : Int) (z : Nat → Int) : Nat → Option Int := fun t => if (t : Int) = normI n i then none else some (z t)
theorem mv_one (o : Option Int) : (mv o).oneCell' = true := by cases o <;> rfl
/-- updateArrayIndex with the marker, at an array of the call's own. -/
theorem updI_mark (b n : Nat) (z : Nat → Int) (i : Int) (w : World) (hn : n ≤ 65536) (hv : w.rowIs b 20 n (fun t => ib (z t))) (hi0 : -9223372036854775808 ≤ i) (hi1 : i ≤ 9223372036854775807) :
    Calls Tryz.prog 19 #[.slice (some ⟨b, 0, none⟩) n n, .int .i64 i, .slice none 0 0, mk0, .map none] w fun e w' => ∃ b', e = .returned (.tuple #[.iface 39 (.slice (some ⟨b', 0, none⟩) n n), .nilIface]) ∧ w'.rowIs b' 20 n (fun t => mv (gI n i z t)) ∧ (b' = b ∨ w.heap.size ≤ b') ∧ Kept w w' := by
  by_cases ho : (i < 0 ∧ i + n < 0) ∨ (n : Int) ≤ i
  · refine (updateArrayIndex_out ⟨b, 0, none⟩ n n i _ _ none w hi0 hi1 ho (by omega)).mono ?_
    rintro e w' ⟨rfl, rfl⟩
    refine ⟨b, rfl, hv.congr fun t ht => ?_, .inl rfl, Below.refl _ _⟩
    unfold gI normI
    rw [if_neg (by split <;> omega)]
    rfl
  · obtain ⟨j, hj⟩ : ∃ j : Nat, (if i < 0 then i + n else i) = j := by
      split
      · exact ⟨(i + n).toNat, by omega⟩
      · exact ⟨i.toNat, by omega⟩
    have hjn : j < n := by split at hj <;> omega
    refine (updateArrayIndex_in (some ⟨b, 0, none⟩) n n (fun t => ib (z t)) i j _ _ _ _ none w (rd_row hv) (fun _ _ => rfl) hi0 hj hjn (by omega) (by omega) (Nat.le_refl _) (.inl ⟨rfl, rfl⟩)).mono ?_
    rintro e w' ⟨b', rfl, hb', hrow, hk, _⟩
    refine ⟨b', rfl, hrow.congr fun t ht => ?_, .inr hb', hk.below (Nat.le_refl _) (fun i e => by cases e)⟩
    unfold gI normI
    simp only [hj]
    by_cases e : t = j
    · rw [if_pos e, if_pos (by omega)]; rfl
    · rw [if_neg e, if_pos ht, if_neg (by omega)]; rfl
/-- What the road of a deletion answers: nil. -/
def DelNil (w : World) (e : Ending) (w' : World) : Prop := e = .returned (.tuple #[.slice none 0 0, .slice none 0 0, .bool true, .bool true, .bool false]) ∧ Kept w w'
/-- What the road of a deletion answers: what is kept. -/
def DelArr (g : Nat → Option Int) (n : Nat) (w : World) (e : Ending) (w' : World) : Prop :=
  ∃ b1 b2, e = .returned (.tuple #[.slice (some ⟨b1, 0, none⟩) (kl g n).length (kl g n).length, .slice (some ⟨b2, 0, none⟩) (kl g n).length (kl g n).length, .bool false, .bool true, .bool false]) ∧
    w'.rowIs b1 3 (kl g n).length (fun s => .int .i64 ((kl g n).getD s 0)) ∧ w'.rowIs b2 4 (kl g n).length (fun _ => .bool true) ∧ Kept w w'
theorem ZZDeleteIndexInts_nil (c : Nat) (i : Int) (w : World) (hi0 : -9223372036854775808 ≤ i) (hi1 : i ≤ 9223372036854775807) :
    Calls Tryz.prog 11 #[.slice none 0 c, .int .i64 i] w (DelNil w) := by
  go_enter Tryz.func11, Tryz.ntmps11
  go_wp2_with fail
  refine (zzIntsToAny_nil c w).mono ?_
  rintro e w1 ⟨rfl, rfl⟩
  go_wp2_with fail
  refine (updateArrayIndex_out_nil i _ _ none _ hi0 hi1).mono ?_
  rintro e w1 ⟨rfl, rfl⟩
  go_wp2_with fail
  refine (deleteEmpty_nil _).mono ?_
  rintro e w2 ⟨rfl, rfl⟩
  go_wp2_with fail
  refine (zzAnyToInts_nil _).mono ?_
  rintro e w3 ⟨rfl, rfl⟩
  go_wp2_with fail
  exact bodyPost_ret (v := .tuple #[.slice none 0 0, .slice none 0 0, .bool true, .bool true, .bool false]) (by simp [results, Tryz.results11, go_sem]) rfl ⟨rfl, Below.refl _ _⟩
set_option maxHeartbeats 1000000 in
theorem ZZDeleteIndexInts_some (a : Addr) (n c : Nat) (z : Nat → Int) (i : Int) (w : World) (hn : n ≤ 65536) (h : Rd w (some a) n (fun t => .int .i64 (z t))) (hi0 : -9223372036854775808 ≤ i) (hi1 : i ≤ 9223372036854775807) :
    Calls Tryz.prog 11 #[.slice (some a) n c, .int .i64 i] w (DelArr (gI n i z) n w) := by
  have hkl := kl_len (gI n i z) n
  go_enter Tryz.func11, Tryz.ntmps11
  go_wp2_with fail
  refine (zzIntsToAny_some a n c z w (by omega) h).mono ?_
  rintro e w1 ⟨b, rfl, hb, hrow, hk1⟩
  have R1 := Lib.hid hrow
  have K1 := Lib.hid hk1
  clear hrow hk1 h
  go_wp2_with fail
  refine (updI_mark b n z i w1 hn R1.out hi0 hi1).mono ?_
  rintro e w2 ⟨b', rfl, hrow2, hb', hk2⟩
  have HB : Hid (w.heap.size ≤ b') := by
    have := K1.out.size
    rcases hb' with h | h
    · rw [h]; exact hb
    · exact Nat.le_trans this h
  have R2 := Lib.hid hrow2
  have K2 := Lib.hid hk2
  clear hrow2 hk2 hb' hb
  go_wp2_with fail
  refine (deleteEmpty_arr b' n (gI n i z) w2 (by omega) R2.out).mono ?_
  rintro e w3 ⟨rfl, ⟨f, hr3, hf⟩, hk3⟩
  have hrd : Rd w3 (some ⟨b', 0, none⟩) (kl (gI n i z) n).length (fun s => ib ((kl (gI n i z) n).getD s 0)) := .inr ⟨b', 0, rfl, fun s hs => by rw [Nat.zero_add, hr3.cell (i := s) (by omega), hf s hs]⟩
  have K3 : Hid (Kept w w3) := Below.trans (K1.out.trans K2.out) (hk3.below (K1.out.trans K2.out).size (fun i e => by have := HB.out; omega))
  have R3 := Lib.hid hrd
  clear hr3 hf hk3 hrd
  obtain ⟨M, hM⟩ : ∃ M, M = (kl (gI n i z) n).length := ⟨_, rfl⟩
  have HM := Lib.hid hM
  rw [← hM] at R3 hkl ⊢
  clear hM
  go_wp2_with fail
  refine (zzAnyToInts_some ⟨b', 0, none⟩ M n (fun s => (kl (gI n i z) n).getD s 0) w3 (by omega) R3.out).mono ?_
  rintro e w4 ⟨b1, b2, rfl, h1, h2, hk4⟩
  have HF := Lib.hid (And.intro h1 (And.intro h2 (K3.out.trans hk4)))
  clear h1 h2 hk4
  go_wp2_with fail
  refine bodyPost_ret (v := .tuple #[.slice (some ⟨b1, 0, none⟩) M M, .slice (some ⟨b2, 0, none⟩) M M, .bool false, .bool true, .bool false]) (by simp [results, Tryz.results11, go_sem]) rfl ?_
  obtain rfl := HM.out
  exact ⟨b1, b2, rfl, HF.out⟩
set_option maxHeartbeats 4000000 in
theorem FnUpdateArrayIndexDelete_walk (a0 : Option Addr) (n0 c0 : Nat) (z : Nat → Int) (i : Int) (w : World) (h0 : Rd w a0 n0 (fun t => .int .i64 (z t))) (m0 : n0 ≤ 9223372036854775807) (hi0 : -9223372036854775808 ≤ i) (hi1 : i ≤ 9223372036854775807) :
    Calls Tryz.prog 4 #[.slice a0 n0 c0, .int .i64 i] w (TrueKept w) := by
  have H0 := Lib.hid h0
  cases a0 with
  | none =>
    obtain rfl : n0 = 0 := by
      rcases h0 with h | ⟨b, off, e, h⟩
      · exact h
      · cases e
    clear h0
    go_enter Tryz.func4, Tryz.ntmps4
    go_wp2_with fail
    refine (zzBytes_FnUpdateArrayIndexDelete_any none 0 c0 i w m0).mono ?_
    rintro e w1 ⟨b, rfl, rfl⟩
    cases b with
    | false =>
      go_wp2
      go_ret
      exact ⟨rfl, Below.refl _ _⟩
    | true =>
    go_wp2_with fail
    refine (zzCloneInts_nil c0 w).mono ?_
    rintro e w1 ⟨rfl, rfl⟩
    go_wp2_with fail
    refine (ZZDeleteIndexInts_nil 0 i w hi0 hi1).mono ?_
    rintro e w1 ⟨rfl, hk1⟩
    have K1 := Lib.hid hk1
    clear hk1
    by_cases c1 : i < 0
    all_goals
      go_wp2
      go_loop [11] (fun t => t = .int .i64 0) (fun _ => 0)
      case atStart => rfl
      case round =>
        subst hrel
        go_wp2
        go_ret
        exact ⟨rfl, K1.out⟩
  | some a =>
    clear h0
    go_enter Tryz.func4, Tryz.ntmps4
    go_wp2_with fail
    refine (zzBytes_FnUpdateArrayIndexDelete_any (some a) n0 c0 i w m0).mono ?_
    rintro e w1 ⟨b, rfl, rfl⟩
    cases b with
    | false =>
      go_wp2
      go_ret
      exact ⟨rfl, Below.refl _ _⟩
    | true =>
    by_cases g0 : 65536 < n0
    · go_wp2
      go_ret
      exact ⟨rfl, Below.refl _ _⟩
    go_wp2_with fail
    refine (zzCloneInts_some a n0 c0 z w (by omega) H0.out).mono ?_
    rintro e w1 ⟨b0, rfl, _, hr0, hk1⟩
    have R1 := Lib.hid (rd_row hr0)
    have K1 := Lib.hid hk1
    clear hr0 hk1
    go_wp2_with fail
    refine (ZZDeleteIndexInts_some ⟨b0, 0, none⟩ n0 n0 z i w1 (by omega) R1.out hi0 hi1).mono ?_
    rintro e w2 ⟨b1, b2, rfl, h1, h2, hk2⟩
    by_cases ho : i < -(n0 : Int) ∨ (n0 : Int) ≤ i
    · obtain ⟨p, q⟩ := kl_all (g := gI n0 i z) (z := z) n0 (fun t ht => by unfold gI normI; rw [if_neg (by split <;> omega)])
      rw [p] at h1 h2 ⊢
      have HX := Lib.hid (And.intro h1 (And.intro h2 q))
      have K2 := Lib.hid (K1.out.trans hk2)
      have RV := Lib.hid (R1.out.kept hk2)
      have q1 : ((n0 : Int) != (n0 : Int)) = false := by simp
      clear h1 h2 p q hk2
      rcases ho with ho | ho
      all_goals
        first
          | have ho2 : ¬ i < -(n0 : Int) := by omega
          | skip
        go_wp2_with fail
        go_loopw [11] (fun t wr => ∃ k r : Nat, k ≤ n0 ∧ t = .int .i64 k ∧ wr = w2.drewN r) (fun t _ => n0 - (intOf t).toNat)
        case atStart => exact ⟨0, 0, Nat.zero_le _, rfl, rfl⟩
        case round =>
          obtain ⟨k, r, hk, rfl, rfl⟩ := hrel
          by_cases hlt : k < n0
          · obtain ⟨h1, h2, q⟩ := HX.out
            have e1 := h1.cell hlt
            have e2 := h2.cell hlt
            have e3 := (rd_at RV.out hlt)
            rw [q k hlt] at e1
            have q7 : (0 : Int) ≤ (k : Int) := by omega
            have q8 : (k : Int) < (n0 : Int) := by omega
            have q9 : (z k != z k) = false := by simp
            clear h1 h2 q
            go_wp2_with fail
            go_quiet (fail)
            go_wp2
            go_roundw
            case rel => exact ⟨k + 1, _, by omega, by go_num, rfl⟩
            case measure => simp [intOf]; omega
          · go_wp2
            go_ret
            exact ⟨rfl, K2.out.trans (kept_drewN _ _)⟩
    · obtain ⟨j, hj⟩ : ∃ j : Nat, normI n0 i = j := by
        unfold normI
        split
        · exact ⟨(i + n0).toNat, by omega⟩
        · exact ⟨i.toNat, by omega⟩
      have hjn : j < n0 := by unfold normI at hj; split at hj <;> omega
      obtain ⟨p, q⟩ := (kl_gap (g := gI n0 i z) (z := z) (s := j) (e := j + 1) (by omega) (fun t ht => by unfold gI; rw [hj, if_neg (by omega)]) (fun t h1 h2 => by unfold gI; rw [hj, if_pos (by omega)]) (fun t ht => by unfold gI; rw [hj, if_neg (by omega)]) n0).2.2 (by omega)
      obtain ⟨M, hM⟩ : ∃ M, M = (kl (gI n0 i z) n0).length := ⟨_, rfl⟩
      rw [← hM] at p h1 h2 ⊢
      have hMn : M + 1 = n0 := by omega
      have HX := Lib.hid (And.intro h1 (And.intro h2 q))
      have K2 := Lib.hid (K1.out.trans hk2)
      have RV := Lib.hid (R1.out.kept hk2)
      have HMn := Lib.hid hMn
      have HJ := Lib.hid hj
      have q1 : ((M : Int) != (n0 : Int) - 1) = false := by simp; omega
      have hML : (M : Int) ≤ (n0 : Int) - 1 := by omega
      have hMG : (n0 : Int) - 1 ≤ (M : Int) := by omega
      have o1 : ¬ i < -(n0 : Int) := by omega
      have o2 : i < (n0 : Int) := by omega
      clear h1 h2 p q hk2 hM hMn hj ho
      by_cases c1 : i < 0
      · have hJx := HJ.out
        unfold normI at hJx
        rw [if_pos c1] at hJx
        have HJx := Lib.hid hJx
        clear hJx
        go_wp2_with fail
        go_loopw [13] (fun t wr => ∃ k r : Nat, k ≤ M ∧ t = .int .i64 k ∧ wr = w2.drewN r) (fun t _ => M - (intOf t).toNat)
        case atStart => exact ⟨0, 0, Nat.zero_le _, rfl, rfl⟩
        case round =>
          obtain ⟨k, r, hk, rfl, rfl⟩ := hrel
          by_cases hlt : k < M
          · obtain ⟨h1, h2, q⟩ := HX.out
            have e1 := h1.cell hlt
            have e2 := h2.cell hlt
            rw [q k (by have := HMn.out; omega)] at e1
            have q7 : (0 : Int) ≤ (k : Int) := by omega
            have q8 : (k : Int) < (M : Int) := by omega
            have q6 : (k : Int) < (n0 : Int) - 1 := by omega
            have q5 : (k : Int) < (n0 : Int) := by omega
            have q4 : (k : Int) + 1 < (n0 : Int) := by omega
            by_cases ck : k < j
            · have e3 := rd_at RV.out (show k < n0 by have := HMn.out; omega)
              rw [if_pos ck] at e1
              have q9 : (z k != z k) = false := by simp
              have t1 : (k : Int) < i + (n0 : Int) := by have := HJx.out; omega
              clear h1 h2 q ck
              go_wp2_with fail
              go_quiet (fail)
              go_wp2
              go_roundw
              case rel => exact ⟨k + 1, _, by omega, by go_num, rfl⟩
              case measure => simp [intOf]; omega
            · have e3 := rd_at RV.out (show k + 1 < n0 by have := HMn.out; omega)
              rw [if_neg ck, show k + (j + 1 - j) = k + 1 by omega] at e1
              have q9 : (z (k + 1) != z (k + 1)) = false := by simp
              have t1 : i + (n0 : Int) ≤ (k : Int) := by have := HJx.out; omega
              clear h1 h2 q ck
              go_wp2_with fail
              go_quiet (fail)
              go_wp2
              go_roundw
              case rel => exact ⟨k + 1, _, by omega, by go_num, rfl⟩
              case measure => simp [intOf]; omega
          · have q6 : (n0 : Int) - 1 ≤ (k : Int) := by omega
            go_wp2
            go_ret
            exact ⟨rfl, K2.out.trans (kept_drewN _ _)⟩
      · have hJx := HJ.out
        unfold normI at hJx
        rw [if_neg c1] at hJx
        have HJx := Lib.hid hJx
        clear hJx
        go_wp2_with fail
        go_loopw [13] (fun t wr => ∃ k r : Nat, k ≤ M ∧ t = .int .i64 k ∧ wr = w2.drewN r) (fun t _ => M - (intOf t).toNat)
        case atStart => exact ⟨0, 0, Nat.zero_le _, rfl, rfl⟩
        case round =>
          obtain ⟨k, r, hk, rfl, rfl⟩ := hrel
          by_cases hlt : k < M
          · obtain ⟨h1, h2, q⟩ := HX.out
            have e1 := h1.cell hlt
            have e2 := h2.cell hlt
            rw [q k (by have := HMn.out; omega)] at e1
            have q7 : (0 : Int) ≤ (k : Int) := by omega
            have q8 : (k : Int) < (M : Int) := by omega
            have q6 : (k : Int) < (n0 : Int) - 1 := by omega
            have q5 : (k : Int) < (n0 : Int) := by omega
            have q4 : (k : Int) + 1 < (n0 : Int) := by omega
            by_cases ck : k < j
            · have e3 := rd_at RV.out (show k < n0 by have := HMn.out; omega)
              rw [if_pos ck] at e1
              have q9 : (z k != z k) = false := by simp
              have t1 : (k : Int) < i := by have := HJx.out; omega
              clear h1 h2 q ck
              go_wp2_with fail
              go_quiet (fail)
              go_wp2
              go_roundw
              case rel => exact ⟨k + 1, _, by omega, by go_num, rfl⟩
              case measure => simp [intOf]; omega
            · have e3 := rd_at RV.out (show k + 1 < n0 by have := HMn.out; omega)
              rw [if_neg ck, show k + (j + 1 - j) = k + 1 by omega] at e1
              have q9 : (z (k + 1) != z (k + 1)) = false := by simp
              have t1 : i ≤ (k : Int) := by have := HJx.out; omega
              clear h1 h2 q ck
              go_wp2_with fail
              go_quiet (fail)
              go_wp2
              go_roundw
              case rel => exact ⟨k + 1, _, by omega, by go_num, rfl⟩
              case measure => simp [intOf]; omega
          · have q6 : (n0 : Int) - 1 ≤ (k : Int) := by omega
            go_wp2
            go_ret
            exact ⟨rfl, K2.out.trans (kept_drewN _ _)⟩
end Go.Proofs.YtmfebiipalaihaaGreatDoor
