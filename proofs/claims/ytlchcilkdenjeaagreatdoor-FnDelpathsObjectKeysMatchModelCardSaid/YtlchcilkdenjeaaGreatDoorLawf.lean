/- The walk of FnUpdateArrayIndexCaseTable. -/
import Derived.Test.YtlchcilkdenjeaaGreatDoorUpdm
import Derived.Test.YtlchcilkdenjeaaGreatDoorLawa
namespace Go.Proofs.YtlchcilkdenjeaaGreatDoor
open Go.RowKit Go.Gq
set_option maxRecDepth 100000
theorem zzBytes_FnUpdateArrayIndexCaseTable_any (a0 : Option Addr) (n0 c0 : Nat) (i n : Int) (w : World) (h0 : n0 ≤ 9223372036854775807) :
    Calls Tryz.prog 19 #[.slice a0 n0 c0, .int .i64 i, .int .i64 n] w (SomeBool w) := by
  by_cases g0 : n0 ≤ 1048576
  rotate_left
  · go_enter Tryz.func19, Tryz.ntmps19
    go_wp2
    go_ret
    exact ⟨false, rfl, rfl⟩
  go_enter Tryz.func19, Tryz.ntmps19
  go_wp2
  go_ret
  exact ⟨true, rfl, rfl⟩
theorem ib_not_marker (n : Int) (W : World) : (binOp .eql 20 (ib n) (.iface 57 (.agg #[]))).run Tryz.prog W = .ok (.bool false) W := by kernel_rfl
set_option maxHeartbeats 4000000 in
theorem FnUpdateArrayIndexCaseTable_neg (a0 : Option Addr) (n0 c0 : Nat) (z : Nat → Int) (i : Int) (n : Int) (w : World) (h0 : Rd w a0 n0 (fun t => .int .i64 (z t))) (g0 : n0 ≤ 65536) (hi0 : -9223372036854775808 ≤ i) (hj : i + n0 < 0) :
    Calls Tryz.prog 4 #[.slice a0 n0 c0, .int .i64 i, .int .i64 n] w (TrueKept w) := by
  have H0 := Lib.hid h0
  clear h0
  have hi9 : i < 0 := by omega
  go_enter Tryz.func4, Tryz.ntmps4
  go_wp2_with fail
  refine (zzBytes_FnUpdateArrayIndexCaseTable_any a0 n0 c0 i n w (by omega)).mono ?_
  rintro e w1 ⟨b, rfl, rfl⟩
  cases b with
  | false =>
    go_wp2
    go_ret
    exact ⟨rfl, Below.refl _ _⟩
  | true =>
  go_wp2_with fail
  refine (zzAnyInts_any a0 n0 c0 z w H0.out (by omega)).mono ?_
  rintro e w1 ⟨b1, rfl, hb1, hr1, hk1⟩
  have R1 := Lib.hid hr1
  have K1 := Lib.hid hk1
  clear hr1 hk1 hb1
  go_wp2_with fail
  obtain ⟨W, hW⟩ : ∃ W : World, W = w1.alloc (.cells #[ib i] 20) := ⟨_, rfl⟩
  have hkW : Kept w1 W := by rw [hW]; exact kept_alloc _ _
  have hp : W.cell? ⟨w1.heap.size, 0, none⟩ = some (ib i) := by rw [hW]; simp
  rw [← hW]
  have KW := Lib.hid hkW
  have HP := Lib.hid hp
  clear hkW hp hW
  refine (ZZupdate_run (Q := Err 88 W) _ (ib n) _ 1 1 none W (update_idx_arr w1.heap.size (ib n) none W (some ⟨b1, 0, none⟩) n0 n0 i HP.out ((updateArrayIndex_neg (some ⟨b1, 0, none⟩) n0 n0 i _ _ _ _ none W hi0 (by omega) hj (by omega) (ib_not_marker n)).mono fun e w' ⟨a, h1, h2⟩ => ⟨_, _, h1, rfl, h2, a, rfl⟩))).mono ?_
  rintro e w2 ⟨u, er, rfl, rfl, hk2, x, rfl⟩
  have K2 := Lib.hid hk2
  clear hk2
  go_wp2_with fail
  refine (zzAsInts_any (some ⟨b1, 0, none⟩) n0 n0 z w2 ((rd_row R1.out).kept (KW.out.trans K2.out)) (by omega)).mono ?_
  rintro e w3 ⟨b3, rfl, hr3, hk3⟩
  have R3 := Lib.hid hr3
  have K3 := Lib.hid hk3
  clear hr3 hk3
  have K03 : Hid (Kept w w3) := ((K1.out.trans KW.out).trans K2.out).trans K3.out
  go_wp2_with fail
  refine (zzSameInts_true _ a0 n0 n0 c0 z w3 R3.out (H0.out.kept K03.out) (by omega)).mono ?_
  rintro e w4 ⟨rfl, m, rfl⟩
  go_wp2
  go_ret
  exact ⟨rfl, K03.out.trans (kept_drewN _ _)⟩
set_option maxHeartbeats 4000000 in
theorem FnUpdateArrayIndexCaseTable_big (a0 : Option Addr) (n0 c0 : Nat) (z : Nat → Int) (i : Int) (n : Int) (w : World) (h0 : Rd w a0 n0 (fun t => .int .i64 (z t))) (g0 : n0 ≤ 65536) (hi : 536870912 ≤ i) (hi1 : i ≤ 9223372036854775807) :
    Calls Tryz.prog 4 #[.slice a0 n0 c0, .int .i64 i, .int .i64 n] w (TrueKept w) := by
  have H0 := Lib.hid h0
  clear h0
  have hi8 : (n0 : Int) ≤ i := by omega
  have hi9 : ¬ i < 0 := by omega
  have hi7 : ¬ i < 536870912 := by omega
  have hi6 : 65536 < i := by omega
  go_enter Tryz.func4, Tryz.ntmps4
  go_wp2_with fail
  refine (zzBytes_FnUpdateArrayIndexCaseTable_any a0 n0 c0 i n w (by omega)).mono ?_
  rintro e w1 ⟨b, rfl, rfl⟩
  cases b with
  | false =>
    go_wp2
    go_ret
    exact ⟨rfl, Below.refl _ _⟩
  | true =>
  go_wp2_with fail
  refine (zzAnyInts_any a0 n0 c0 z w H0.out (by omega)).mono ?_
  rintro e w1 ⟨b1, rfl, hb1, hr1, hk1⟩
  have R1 := Lib.hid hr1
  have K1 := Lib.hid hk1
  clear hr1 hk1 hb1
  go_wp2_with fail
  obtain ⟨W, hW⟩ : ∃ W : World, W = w1.alloc (.cells #[ib i] 20) := ⟨_, rfl⟩
  have hkW : Kept w1 W := by rw [hW]; exact kept_alloc _ _
  have hp : W.cell? ⟨w1.heap.size, 0, none⟩ = some (ib i) := by rw [hW]; simp
  rw [← hW]
  have KW := Lib.hid hkW
  have HP := Lib.hid hp
  clear hkW hp hW
  refine (ZZupdate_run (Q := Err 91 W) _ (ib n) _ 1 1 none W (update_idx_arr w1.heap.size (ib n) none W (some ⟨b1, 0, none⟩) n0 n0 i HP.out ((updateArrayIndex_big (some ⟨b1, 0, none⟩) n0 n0 i _ _ _ _ none W hi (by omega) (ib_not_marker n)).mono fun e w' ⟨a, h1, h2⟩ => ⟨_, _, h1, rfl, h2, a, rfl⟩))).mono ?_
  rintro e w2 ⟨u, er, rfl, rfl, hk2, x, rfl⟩
  have K2 := Lib.hid hk2
  clear hk2
  go_wp2_with fail
  refine (zzAsInts_any (some ⟨b1, 0, none⟩) n0 n0 z w2 ((rd_row R1.out).kept (KW.out.trans K2.out)) (by omega)).mono ?_
  rintro e w3 ⟨b3, rfl, hr3, hk3⟩
  have R3 := Lib.hid hr3
  have K3 := Lib.hid hk3
  clear hr3 hk3
  have K03 : Hid (Kept w w3) := ((K1.out.trans KW.out).trans K2.out).trans K3.out
  go_wp2_with fail
  refine (zzSameInts_true _ a0 n0 n0 c0 z w3 R3.out (H0.out.kept K03.out) (by omega)).mono ?_
  rintro e w4 ⟨rfl, m, rfl⟩
  go_wp2
  go_ret
  exact ⟨rfl, K03.out.trans (kept_drewN _ _)⟩
set_option maxHeartbeats 4000000 in
theorem FnUpdateArrayIndexCaseTable_inn (a0 : Option Addr) (n0 c0 : Nat) (z : Nat → Int) (i : Int) (j : Nat) (n : Int) (w : World) (h0 : Rd w a0 n0 (fun t => .int .i64 (z t))) (g0 : n0 ≤ 65536) (hi0 : -9223372036854775808 ≤ i) (hi9 : i < 0) (hj : i + n0 = j) (hjL : j < n0) :
    Calls Tryz.prog 4 #[.slice a0 n0 c0, .int .i64 i, .int .i64 n] w (TrueKept w) := by
  have H0 := Lib.hid h0
  clear h0
  have HJ : Hid ((if i < 0 then i + n0 else i) = j) := by show (if i < 0 then i + n0 else i) = j; rw [if_pos hi9]; exact hj
  have HJx := Lib.hid hj
  clear hj
  have hi8 : ¬ i + (n0 : Int) < 0 := by have := HJx.out; omega
  have hi7 : i + (n0 : Int) < n0 := by omega
  go_enter Tryz.func4, Tryz.ntmps4
  go_wp2_with fail
  refine (zzBytes_FnUpdateArrayIndexCaseTable_any a0 n0 c0 i n w (by omega)).mono ?_
  rintro e w1 ⟨b, rfl, rfl⟩
  cases b with
  | false =>
    go_wp2
    go_ret
    exact ⟨rfl, Below.refl _ _⟩
  | true =>
  go_wp2_with fail
  refine (zzAnyInts_any a0 n0 c0 z w H0.out (by omega)).mono ?_
  rintro e w1 ⟨b1, rfl, hb1, hr1, hk1⟩
  have R1 := Lib.hid hr1
  have K1 := Lib.hid hk1
  clear hr1 hk1 hb1
  go_wp2_with fail
  obtain ⟨W, hW⟩ : ∃ W : World, W = w1.alloc (.cells #[ib i] 20) := ⟨_, rfl⟩
  have hkW : Kept w1 W := by rw [hW]; exact kept_alloc _ _
  have hp : W.cell? ⟨w1.heap.size, 0, none⟩ = some (ib i) := by rw [hW]; simp
  rw [← hW]
  have KW := Lib.hid hkW
  have HP := Lib.hid hp
  clear hkW hp hW
  refine (ZZupdate_run (Q := fun u er w' => er = .nilIface ∧ ∃ b, u = .iface 25 (.slice (some ⟨b, 0, none⟩) n0 n0) ∧ w'.rowIs b 20 n0 (fun t => if t = j then ib n else if t < n0 then ib (z t) else .nilIface) ∧ Kept W w') _ (ib n) _ 1 1 none W (update_idx_arr w1.heap.size (ib n) none W (some ⟨b1, 0, none⟩) n0 n0 i HP.out ((updateArrayIndex_in (some ⟨b1, 0, none⟩) n0 n0 (fun t => ib (z t)) i j _ _ _ _ none W ((rd_row R1.out).kept KW.out) (fun _ _ => rfl) hi0 HJ.out hjL (by omega) (by omega) (Nat.le_refl _) (.inl ⟨rfl, rfl⟩)).mono fun e w' ⟨b, h1, h2, h3, h4, _⟩ => ⟨_, _, h1, rfl, b, rfl, h3, h4.below (Nat.le_refl _) (fun i e => by cases e)⟩))).mono ?_
  rintro e w2 ⟨u, er, rfl, rfl, b2, rfl, hr2, hk2⟩
  have R2 := Lib.hid hr2
  have K2 := Lib.hid hk2
  clear hr2 hk2
  go_wp2_with fail
  refine (zzAsInts_any (some ⟨b1, 0, none⟩) n0 n0 z w2 ((rd_row R1.out).kept (KW.out.trans K2.out)) (by omega)).mono ?_
  rintro e w3 ⟨b3, rfl, hr3, hk3⟩
  have R3 := Lib.hid hr3
  have K3 := Lib.hid hk3
  clear hr3 hk3
  have K03 : Hid (Kept w w3) := ((K1.out.trans KW.out).trans K2.out).trans K3.out
  go_wp2_with fail
  refine (zzSameInts_true _ a0 n0 n0 c0 z w3 R3.out (H0.out.kept K03.out) (by omega)).mono ?_
  rintro e w4 ⟨rfl, m, rfl⟩
  have HX := Lib.hid (H0.out.kept (K03.out.trans (kept_drewN _ m)))
  have HR := Lib.hid ((rowIs_kept R2.out K3.out).of_block (w' := w3.drewN m) rfl)
  have q9 : ((n0 : Int) != (n0 : Int)) = false := by simp
  go_wp2_with fail
  go_loop [15] (fun i => ∃ k : Nat, k ≤ n0 ∧ i = .int .i64 k) (fun i => n0 - (intOf i).toNat)
  case atStart => exact ⟨0, Nat.zero_le _, rfl⟩
  case round =>
    obtain ⟨k, hk, rfl⟩ := hrel
    by_cases hlt : k < n0
    · have hc := HR.out.cell hlt
      by_cases ek : k = j
      · rw [if_pos ek] at hc
        have q1 : ((k : Int) == i + (n0 : Int)) = true := by have := HJx.out; simp; omega
        have q2 : (n != n) = false := by simp
        clear ek
        go_wp2
        go_round
        case rel => exact ⟨k + 1, by omega, by go_num⟩
        case measure => simp [intOf]; omega
      · rw [if_neg ek, if_pos hlt] at hc
        have q1 : ((k : Int) == i + (n0 : Int)) = false := by have := HJx.out; simp; omega
        have q2 : (z k != z k) = false := by simp
        obtain ⟨xb, xo, e1, hc1⟩ := HX.out.at hlt
        subst e1
        clear ek
        go_wp2
        go_round
        case rel => exact ⟨k + 1, by omega, by go_num⟩
        case measure => simp [intOf]; omega
    · go_wp2
      go_ret
      exact ⟨rfl, K03.out.trans (kept_drewN _ _)⟩
set_option maxHeartbeats 4000000 in
theorem FnUpdateArrayIndexCaseTable_inp (a0 : Option Addr) (n0 c0 : Nat) (z : Nat → Int) (i : Int) (j : Nat) (n : Int) (w : World) (h0 : Rd w a0 n0 (fun t => .int .i64 (z t))) (g0 : n0 ≤ 65536) (hi0 : -9223372036854775808 ≤ i) (hi9 : ¬ i < 0) (hj : i = j) (hjL : j < n0) :
    Calls Tryz.prog 4 #[.slice a0 n0 c0, .int .i64 i, .int .i64 n] w (TrueKept w) := by
  have H0 := Lib.hid h0
  clear h0
  have HJ : Hid ((if i < 0 then i + n0 else i) = j) := by show (if i < 0 then i + n0 else i) = j; rw [if_neg hi9]; exact hj
  have HJx := Lib.hid hj
  clear hj
  have hi7 : i < (n0 : Int) := by have := HJx.out; omega
  have hi6 : i ≤ 65536 := by omega
  go_enter Tryz.func4, Tryz.ntmps4
  go_wp2_with fail
  refine (zzBytes_FnUpdateArrayIndexCaseTable_any a0 n0 c0 i n w (by omega)).mono ?_
  rintro e w1 ⟨b, rfl, rfl⟩
  cases b with
  | false =>
    go_wp2
    go_ret
    exact ⟨rfl, Below.refl _ _⟩
  | true =>
  go_wp2_with fail
  refine (zzAnyInts_any a0 n0 c0 z w H0.out (by omega)).mono ?_
  rintro e w1 ⟨b1, rfl, hb1, hr1, hk1⟩
  have R1 := Lib.hid hr1
  have K1 := Lib.hid hk1
  clear hr1 hk1 hb1
  go_wp2_with fail
  obtain ⟨W, hW⟩ : ∃ W : World, W = w1.alloc (.cells #[ib i] 20) := ⟨_, rfl⟩
  have hkW : Kept w1 W := by rw [hW]; exact kept_alloc _ _
  have hp : W.cell? ⟨w1.heap.size, 0, none⟩ = some (ib i) := by rw [hW]; simp
  rw [← hW]
  have KW := Lib.hid hkW
  have HP := Lib.hid hp
  clear hkW hp hW
  refine (ZZupdate_run (Q := fun u er w' => er = .nilIface ∧ ∃ b, u = .iface 25 (.slice (some ⟨b, 0, none⟩) n0 n0) ∧ w'.rowIs b 20 n0 (fun t => if t = j then ib n else if t < n0 then ib (z t) else .nilIface) ∧ Kept W w') _ (ib n) _ 1 1 none W (update_idx_arr w1.heap.size (ib n) none W (some ⟨b1, 0, none⟩) n0 n0 i HP.out ((updateArrayIndex_in (some ⟨b1, 0, none⟩) n0 n0 (fun t => ib (z t)) i j _ _ _ _ none W ((rd_row R1.out).kept KW.out) (fun _ _ => rfl) hi0 HJ.out hjL (by omega) (by omega) (Nat.le_refl _) (.inl ⟨rfl, rfl⟩)).mono fun e w' ⟨b, h1, h2, h3, h4, _⟩ => ⟨_, _, h1, rfl, b, rfl, h3, h4.below (Nat.le_refl _) (fun i e => by cases e)⟩))).mono ?_
  rintro e w2 ⟨u, er, rfl, rfl, b2, rfl, hr2, hk2⟩
  have R2 := Lib.hid hr2
  have K2 := Lib.hid hk2
  clear hr2 hk2
  go_wp2_with fail
  refine (zzAsInts_any (some ⟨b1, 0, none⟩) n0 n0 z w2 ((rd_row R1.out).kept (KW.out.trans K2.out)) (by omega)).mono ?_
  rintro e w3 ⟨b3, rfl, hr3, hk3⟩
  have R3 := Lib.hid hr3
  have K3 := Lib.hid hk3
  clear hr3 hk3
  have K03 : Hid (Kept w w3) := ((K1.out.trans KW.out).trans K2.out).trans K3.out
  go_wp2_with fail
  refine (zzSameInts_true _ a0 n0 n0 c0 z w3 R3.out (H0.out.kept K03.out) (by omega)).mono ?_
  rintro e w4 ⟨rfl, m, rfl⟩
  have HX := Lib.hid (H0.out.kept (K03.out.trans (kept_drewN _ m)))
  have HR := Lib.hid ((rowIs_kept R2.out K3.out).of_block (w' := w3.drewN m) rfl)
  have q9 : ((n0 : Int) != (n0 : Int)) = false := by simp
  go_wp2_with fail
  go_loop [15] (fun i => ∃ k : Nat, k ≤ n0 ∧ i = .int .i64 k) (fun i => n0 - (intOf i).toNat)
  case atStart => exact ⟨0, Nat.zero_le _, rfl⟩
  case round =>
    obtain ⟨k, hk, rfl⟩ := hrel
    by_cases hlt : k < n0
    · have hc := HR.out.cell hlt
      by_cases ek : k = j
      · rw [if_pos ek] at hc
        have q1 : ((k : Int) == i) = true := by have := HJx.out; simp; omega
        have q2 : (n != n) = false := by simp
        clear ek
        go_wp2
        go_round
        case rel => exact ⟨k + 1, by omega, by go_num⟩
        case measure => simp [intOf]; omega
      · rw [if_neg ek, if_pos hlt] at hc
        have q1 : ((k : Int) == i) = false := by have := HJx.out; simp; omega
        have q2 : (z k != z k) = false := by simp
        obtain ⟨xb, xo, e1, hc1⟩ := HX.out.at hlt
        subst e1
        clear ek
        go_wp2
        go_round
        case rel => exact ⟨k + 1, by omega, by go_num⟩
        case measure => simp [intOf]; omega
    · go_wp2
      go_ret
      exact ⟨rfl, K03.out.trans (kept_drewN _ _)⟩
set_option maxHeartbeats 4000000 in
theorem FnUpdateArrayIndexCaseTable_pad (a0 : Option Addr) (n0 c0 : Nat) (z : Nat → Int) (i : Int) (I : Nat) (n : Int) (w : World) (h0 : Rd w a0 n0 (fun t => .int .i64 (z t))) (g0 : n0 ≤ 65536) (hI : i = I) (hi : n0 ≤ I) (hi1 : I ≤ 65536) :
    Calls Tryz.prog 4 #[.slice a0 n0 c0, .int .i64 i, .int .i64 n] w (TrueKept w) := by
  have H0 := Lib.hid h0
  clear h0
  have hi2 : i ≤ 65536 := by omega
  have hi3 : ¬ i < 0 := by omega
  have hi4 : (n0 : Int) ≤ i := by omega
  have HI := Lib.hid hI
  clear hI
  go_enter Tryz.func4, Tryz.ntmps4
  go_wp2_with fail
  refine (zzBytes_FnUpdateArrayIndexCaseTable_any a0 n0 c0 i n w (by omega)).mono ?_
  rintro e w1 ⟨b, rfl, rfl⟩
  cases b with
  | false =>
    go_wp2
    go_ret
    exact ⟨rfl, Below.refl _ _⟩
  | true =>
  go_wp2_with fail
  refine (zzAnyInts_any a0 n0 c0 z w H0.out (by omega)).mono ?_
  rintro e w1 ⟨b1, rfl, hb1, hr1, hk1⟩
  have R1 := Lib.hid hr1
  have K1 := Lib.hid hk1
  clear hr1 hk1 hb1
  go_wp2_with fail
  obtain ⟨W, hW⟩ : ∃ W : World, W = w1.alloc (.cells #[ib i] 20) := ⟨_, rfl⟩
  have hkW : Kept w1 W := by rw [hW]; exact kept_alloc _ _
  have hp : W.cell? ⟨w1.heap.size, 0, none⟩ = some (ib i) := by rw [hW]; simp
  rw [← hW]
  have KW := Lib.hid hkW
  have HP := Lib.hid hp
  clear hkW hp hW
  have hpad := updateArrayIndex_pad (some ⟨b1, 0, none⟩) n0 n0 (fun t => ib (z t)) i (some ⟨w1.heap.size, 0, none⟩) 0 3 (.int .i64 n) none W ((rd_row R1.out).kept KW.out) (fun _ _ => rfl) hi4 (by omega) (by omega) (Nat.le_refl _) (.inl ⟨rfl, rfl⟩) (ib_not_marker n)
  rw [show i.toNat = I by have := HI.out; omega] at hpad
  refine (ZZupdate_run (Q := fun u er w' => er = .nilIface ∧ ∃ b M, u = .iface 25 (.slice (some ⟨b, 0, none⟩) (I + 1) M) ∧ I + 1 ≤ M ∧ w'.rowIs b 20 M (fun t => if t = I then ib n else if t < n0 then ib (z t) else .nilIface) ∧ Kept W w') _ (ib n) _ 1 1 none W (update_idx_arr w1.heap.size (ib n) none W (some ⟨b1, 0, none⟩) n0 n0 i HP.out (hpad.mono fun e w' ⟨b, h1, h2, h3, h4, _⟩ => ⟨_, _, h1, rfl, b, _, rfl, Nat.le_max_left _ _, h3, h4.below (Nat.le_refl _) (fun i e => by cases e)⟩))).mono ?_
  rintro e w2 ⟨u, er, rfl, rfl, b2, M, rfl, hM, hr2, hk2⟩
  clear hpad
  have R2 := Lib.hid hr2
  have K2 := Lib.hid hk2
  clear hr2 hk2
  go_wp2_with fail
  refine (zzAsInts_any (some ⟨b1, 0, none⟩) n0 n0 z w2 ((rd_row R1.out).kept (KW.out.trans K2.out)) (by omega)).mono ?_
  rintro e w3 ⟨b3, rfl, hr3, hk3⟩
  have R3 := Lib.hid hr3
  have K3 := Lib.hid hk3
  clear hr3 hk3
  have K03 : Hid (Kept w w3) := ((K1.out.trans KW.out).trans K2.out).trans K3.out
  go_wp2_with fail
  refine (zzSameInts_true _ a0 n0 n0 c0 z w3 R3.out (H0.out.kept K03.out) (by omega)).mono ?_
  rintro e w4 ⟨rfl, m, rfl⟩
  have HX := Lib.hid (H0.out.kept (K03.out.trans (kept_drewN _ m)))
  have HR := Lib.hid ((rowIs_kept R2.out K3.out).of_block (w' := w3.drewN m) rfl)
  have q9 : ((((I + 1 : Nat)) : Int) != i + 1) = false := by have := HI.out; simp; omega
  have q8 : (((I : Int) + 1) != i + 1) = false := by have := HI.out; simp; omega
  have q5 : ¬ i ≥ 536870912 := by omega
  go_wp2_with fail
  go_loop [18] (fun i => ∃ k : Nat, k ≤ I ∧ i = .int .i64 k) (fun i => I - (intOf i).toNat)
  case atStart => exact ⟨0, Nat.zero_le _, rfl⟩
  case round =>
    obtain ⟨k, hk, rfl⟩ := hrel
    by_cases hlt : k < I
    · have q4 : (k : Int) < i := by have := HI.out; omega
      have hc := HR.out.cell (i := k) (by omega)
      rw [if_neg (by omega)] at hc
      by_cases ek : k < n0
      · rw [if_pos ek] at hc
        have q2 : (z k != z k) = false := by simp
        obtain ⟨xb, xo, e1, hc1⟩ := HX.out.at ek
        subst e1
        go_wp2
        go_round
        case rel => exact ⟨k + 1, by omega, by go_num⟩
        case measure => simp [intOf]; omega
      · rw [if_neg ek] at hc
        go_wp2
        go_round
        case rel => exact ⟨k + 1, by omega, by go_num⟩
        case measure => simp [intOf]; omega
    · obtain rfl : k = I := by omega
      obtain rfl := HI.out
      have hc := HR.out.cell (i := k) (by omega)
      rw [if_pos rfl] at hc
      have q2 : (n == n) = true := by simp
      go_wp2
      go_ret
      exact ⟨rfl, K03.out.trans (kept_drewN _ _)⟩
set_option maxHeartbeats 4000000 in
theorem FnUpdateArrayIndexCaseTable_out (a0 : Option Addr) (n0 c0 : Nat) (i n : Int) (w : World) (m0 : n0 ≤ 9223372036854775807) (h : 65536 < n0 ∨ (65536 < i ∧ i < 536870912)) :
    Calls Tryz.prog 4 #[.slice a0 n0 c0, .int .i64 i, .int .i64 n] w (TrueKept w) := by
  go_enter Tryz.func4, Tryz.ntmps4
  go_wp2_with fail
  refine (zzBytes_FnUpdateArrayIndexCaseTable_any a0 n0 c0 i n w m0).mono ?_
  rintro e w1 ⟨b, rfl, rfl⟩
  cases b with
  | false =>
    go_wp2
    go_ret
    exact ⟨rfl, Below.refl _ _⟩
  | true =>
  by_cases g0 : 65536 < n0
  · clear h
    go_wp2
    go_ret
    exact ⟨rfl, Below.refl _ _⟩
  · obtain ⟨h1, h2⟩ := h.resolve_left g0
    clear h
    go_wp2
    go_ret
    exact ⟨rfl, Below.refl _ _⟩
theorem FnUpdateArrayIndexCaseTable_walk (a0 : Option Addr) (n0 c0 : Nat) (z : Nat → Int) (i n : Int) (w : World) (h0 : Rd w a0 n0 (fun t => .int .i64 (z t))) (m0 : n0 ≤ 9223372036854775807) (hi0 : -9223372036854775808 ≤ i) (hi1 : i ≤ 9223372036854775807) :
    Calls Tryz.prog 4 #[.slice a0 n0 c0, .int .i64 i, .int .i64 n] w (TrueKept w) := by
  by_cases ho : 65536 < n0 ∨ (65536 < i ∧ i < 536870912)
  · exact FnUpdateArrayIndexCaseTable_out a0 n0 c0 i n w m0 ho
  by_cases c1 : i + n0 < 0
  · exact FnUpdateArrayIndexCaseTable_neg a0 n0 c0 z i n w h0 (by omega) hi0 c1
  by_cases c2 : i < 0
  · exact FnUpdateArrayIndexCaseTable_inn a0 n0 c0 z i (i + n0).toNat n w h0 (by omega) hi0 c2 (by omega) (by omega)
  by_cases c3 : i < n0
  · exact FnUpdateArrayIndexCaseTable_inp a0 n0 c0 z i i.toNat n w h0 (by omega) hi0 c2 (by omega) (by omega)
  by_cases c4 : i ≤ 65536
  · obtain ⟨I, rfl⟩ : ∃ I : Nat, i = I := ⟨i.toNat, by omega⟩
    exact FnUpdateArrayIndexCaseTable_pad a0 n0 c0 z I I n w h0 (by omega) rfl (by omega) (by omega)
  · exact FnUpdateArrayIndexCaseTable_big a0 n0 c0 z i n w h0 (by omega) (by omega) hi1
end Go.Proofs.YtlchcilkdenjeaaGreatDoor
