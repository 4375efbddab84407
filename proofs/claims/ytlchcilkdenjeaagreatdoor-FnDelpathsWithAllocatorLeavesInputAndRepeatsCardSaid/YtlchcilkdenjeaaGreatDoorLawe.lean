/- The walk of FnDelpathsWithAllocatorLeavesInputAndRepeats. -/
import Derived.Test.YtlchcilkdenjeaaGreatDoorZzc
import Derived.Test.YtlchcilkdenjeaaGreatDoorLawa
namespace Go.Proofs.YtlchcilkdenjeaaGreatDoor
open Go.RowKit Go.Gq
set_option maxRecDepth 100000
set_option maxHeartbeats 1000000 in
theorem zzBytes_FnDelpathsWithAllocatorLeavesInputAndRepeats_any (a0 : Option Addr) (n0 c0 : Nat) (a1 : Option Addr) (n1 c1 : Nat) (w : World) (h0 : n0 ≤ 9223372036854775807) (h1 : n1 ≤ 9223372036854775807) :
    Calls Tryz.prog 27 #[.slice a0 n0 c0, .slice a1 n1 c1] w (SomeBool w) := by
  by_cases g0 : n0 ≤ 1048576
  rotate_left
  · go_enter Tryz.func27, Tryz.ntmps27
    go_wp2
    go_ret
    exact ⟨false, rfl, rfl⟩
  by_cases g1 : n1 ≤ 1048576
  rotate_left
  · go_enter Tryz.func27, Tryz.ntmps27
    go_wp2
    go_ret
    exact ⟨false, rfl, rfl⟩
  by_cases g2 : n0 + n1 ≤ 1048576
  rotate_left
  · go_enter Tryz.func27, Tryz.ntmps27
    go_wp2
    go_ret
    exact ⟨false, rfl, rfl⟩
  go_enter Tryz.func27, Tryz.ntmps27
  go_wp2
  go_ret
  exact ⟨true, rfl, rfl⟩
set_option maxHeartbeats 8000000 in
theorem FnDelpathsWithAllocatorLeavesInputAndRepeats_walk (a0 : Option Addr) (n0 c0 : Nat) (a1 : Option Addr) (n1 c1 : Nat) (z idx : Nat → Int) (w : World) (h0 : Rd w a0 n0 (fun i => .int .i64 (z i))) (h1 : Rd w a1 n1 (fun i => .int .i64 (idx i)))
    (m0 : n0 ≤ 9223372036854775807) (m1 : n1 ≤ 9223372036854775807) (hi : ∀ j, j < n1 → -9223372036854775808 ≤ idx j ∧ idx j ≤ 9223372036854775807) :
    Calls Tryz.prog 8 #[.slice a0 n0 c0, .slice a1 n1 c1] w (TrueKept w) := by
  have H0 := Lib.hid h0
  have H1 := Lib.hid h1
  have HI := Lib.hid hi
  have hmm : ∀ W : World, (Instr.makeMap 39 none).run Tryz.prog W = .ok (.map (some W.heap.size)) (W.alloc (.map #[] 0)) := make_map
  clear h0 h1 hi
  go_enter Tryz.func8, Tryz.ntmps8
  go_wp2_with fail
  refine (zzBytes_FnDelpathsWithAllocatorLeavesInputAndRepeats_any a0 n0 c0 a1 n1 c1 w m0 m1).mono ?_
  rintro e w1 ⟨b, rfl, rfl⟩
  cases b with
  | false =>
    go_wp2
    go_ret
    exact ⟨rfl, Below.refl _ _⟩
  | true =>
  by_cases g0 : 65536 < n0
  · go_wp2
    go_ret
    exact ⟨rfl, Below.refl _ _⟩
  by_cases g1 : 65536 < n1
  · go_wp2
    go_ret
    exact ⟨rfl, Below.refl _ _⟩
  have hle := kl_len (gm n0 z idx n1) n0
  go_wp2_with fail
  refine (zzAnyInts_any a0 n0 c0 z w H0.out (by omega)).mono ?_
  rintro e v1 ⟨b1, rfl, _, hr, hk⟩
  have R1 := Lib.hid hr
  have K1 := Lib.hid hk
  clear hk hr
  have T1 : Hid (Kept w v1) := K1.out
  go_wp2_with fail
  refine (zzIdxPaths_any a1 n1 c1 idx v1 (H1.out.kept T1.out) (by omega)).mono ?_
  rintro e v2 ⟨b2, Q2, rfl, _, hr, hk⟩
  have R2 := Lib.hid hr
  have K2 := Lib.hid hk
  clear hk hr
  have T2 : Hid (Kept w v2) := T1.out.trans K2.out
  go_wp2_with fail
  refine (call_fresh b1 n0 z (some ⟨b2, 0, none⟩) n1 n1 Q2 idx v2 (rowIs_kept R1.out (K2.out)) (by omega) (by omega) R2.out HI.out 2).mono ?_
  rintro e v3 ⟨b3, rfl, hr, hk⟩
  have R3 := Lib.hid hr
  have K3 := Lib.hid hk
  clear hk hr
  have T3 : Hid (Kept w v3) := T2.out.trans K3.out
  go_wp2_with fail
  refine (zzAsInts_any (some ⟨b3, 0, none⟩) _ n0 (fun s => (kl (gm n0 z idx n1) n0).getD s 0) v3 R3.out (by omega)).mono ?_
  rintro e v4 ⟨b4, rfl, hr, hk⟩
  have R4 := Lib.hid hr
  have K4 := Lib.hid hk
  clear hk hr
  have T4 : Hid (Kept w v4) := T3.out.trans K4.out
  go_wp2_with fail
  refine (call_fresh b1 n0 z (some ⟨b2, 0, none⟩) n1 n1 Q2 idx v4 (rowIs_kept R1.out (((K2.out).trans K3.out).trans K4.out)) (by omega) (by omega) (R2.out.kept ((K3.out).trans K4.out)) HI.out 2).mono ?_
  rintro e v5 ⟨b5, rfl, hr, hk⟩
  have R5 := Lib.hid hr
  have K5 := Lib.hid hk
  clear hk hr
  have T5 : Hid (Kept w v5) := T4.out.trans K5.out
  go_wp2_with fail
  refine (zzAsInts_any (some ⟨b5, 0, none⟩) _ n0 (fun s => (kl (gm n0 z idx n1) n0).getD s 0) v5 R5.out (by omega)).mono ?_
  rintro e v6 ⟨b6, rfl, hr, hk⟩
  have R6 := Lib.hid hr
  have K6 := Lib.hid hk
  clear hk hr
  have T6 : Hid (Kept w v6) := T5.out.trans K6.out
  go_wp2_with fail
  refine (zzAsInts_any (some ⟨b1, 0, none⟩) n0 n0 z v6 (rd_row (rowIs_kept R1.out (((((K2.out).trans K3.out).trans K4.out).trans K5.out).trans K6.out))) (by omega)).mono ?_
  rintro e v7 ⟨b7, rfl, hr, hk⟩
  have R7 := Lib.hid hr
  have K7 := Lib.hid hk
  clear hk hr
  have T7 : Hid (Kept w v7) := T6.out.trans K7.out
  go_wp2_with fail
  refine (zzSameInts_true _ _ _ _ _ z v7 R7.out (H0.out.kept T7.out) (by omega)).mono ?_
  rintro e v8 ⟨rfl, m8, hm⟩
  have K8 : Hid (Kept v7 v8) := by rw [hm]; exact kept_drewN _ _
  clear hm
  have T8 : Hid (Kept w v8) := T7.out.trans K8.out
  go_wp2_with fail
  refine (zzSameInts_true _ _ _ _ _ (fun s => (kl (gm n0 z idx n1) n0).getD s 0) v8 (R4.out.kept ((((K5.out).trans K6.out).trans K7.out).trans K8.out)) (R6.out.kept ((K7.out).trans K8.out)) (by omega)).mono ?_
  rintro e v9 ⟨rfl, m9, hm⟩
  have K9 : Hid (Kept v8 v9) := by rw [hm]; exact kept_drewN _ _
  clear hm
  have T9 : Hid (Kept w v9) := T8.out.trans K9.out
  go_wp2
  go_ret
  exact ⟨rfl, T9.out⟩
end Go.Proofs.YtlchcilkdenjeaaGreatDoor
