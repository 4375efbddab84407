/- The walk of FnDelpathsWithAllocatorMatchesModelForNilAndFreshAllocator. -/
import Derived.Test.YtlchcilkdenjeaaGreatDoorZzc
import Derived.Test.YtlchcilkdenjeaaGreatDoorLawa
namespace Go.Proofs.YtlchcilkdenjeaaGreatDoor
open Go.RowKit Go.Gq
set_option maxRecDepth 100000
set_option maxHeartbeats 1000000 in
theorem zzBytes_FnDelpathsWithAllocatorMatchesModelForNilAndFreshAllocator_any (a0 : Option Addr) (n0 c0 : Nat) (a1 : Option Addr) (n1 c1 : Nat) (w : World) (h0 : n0 ≤ 9223372036854775807) (h1 : n1 ≤ 9223372036854775807) :
    Calls Tryz.prog 25 #[.slice a0 n0 c0, .slice a1 n1 c1] w (SomeBool w) := by
  by_cases g0 : n0 ≤ 1048576
  rotate_left
  · go_enter Tryz.func25, Tryz.ntmps25
    go_wp2
    go_ret
    exact ⟨false, rfl, rfl⟩
  by_cases g1 : n1 ≤ 1048576
  rotate_left
  · go_enter Tryz.func25, Tryz.ntmps25
    go_wp2
    go_ret
    exact ⟨false, rfl, rfl⟩
  by_cases g2 : n0 + n1 ≤ 1048576
  rotate_left
  · go_enter Tryz.func25, Tryz.ntmps25
    go_wp2
    go_ret
    exact ⟨false, rfl, rfl⟩
  go_enter Tryz.func25, Tryz.ntmps25
  go_wp2
  go_ret
  exact ⟨true, rfl, rfl⟩
set_option maxHeartbeats 8000000 in
theorem FnDelpathsWithAllocatorMatchesModelForNilAndFreshAllocator_walk (a0 : Option Addr) (n0 c0 : Nat) (a1 : Option Addr) (n1 c1 : Nat) (z idx : Nat → Int) (w : World) (h0 : Rd w a0 n0 (fun i => .int .i64 (z i))) (h1 : Rd w a1 n1 (fun i => .int .i64 (idx i)))
    (m0 : n0 ≤ 9223372036854775807) (m1 : n1 ≤ 9223372036854775807) (hi : ∀ j, j < n1 → -9223372036854775808 ≤ idx j ∧ idx j ≤ 9223372036854775807) :
    Calls Tryz.prog 7 #[.slice a0 n0 c0, .slice a1 n1 c1] w (TrueKept w) := by
  have H0 := Lib.hid h0
  have H1 := Lib.hid h1
  have HI := Lib.hid hi
  have hmm : ∀ W : World, (Instr.makeMap 39 none).run Tryz.prog W = .ok (.map (some W.heap.size)) (W.alloc (.map #[] 0)) := make_map
  clear h0 h1 hi
  go_enter Tryz.func7, Tryz.ntmps7
  go_wp2_with fail
  refine (zzBytes_FnDelpathsWithAllocatorMatchesModelForNilAndFreshAllocator_any a0 n0 c0 a1 n1 c1 w m0 m1).mono ?_
  rintro e w1 ⟨b, rfl, rfl⟩
  cases b with
  | false =>
    go_wp2
    go_ret
    exact ⟨rfl, Below.refl _ _⟩
  | true =>
  by_cases g0 : 4096 < n0
  · go_wp2
    go_ret
    exact ⟨rfl, Below.refl _ _⟩
  by_cases g1 : 4096 < n1
  · go_wp2
    go_ret
    exact ⟨rfl, Below.refl _ _⟩
  have hle := kl_len (gm n0 z idx n1) n0
  go_wp2_with fail
  refine (zzMarkModel_any a0 a1 n0 n1 c0 c1 z idx w H0.out H1.out (by omega) (by omega) HI.out).mono ?_
  rintro e v1 ⟨b1, rfl, hr, hk⟩
  have R1 := Lib.hid hr
  have K1 := Lib.hid hk
  clear hk hr
  have T1 : Hid (Kept w v1) := K1.out
  go_wp2_with fail
  refine (zzAnyInts_any a0 n0 c0 z v1 (H0.out.kept T1.out) (by omega)).mono ?_
  rintro e v2 ⟨b2, rfl, _, hr, hk⟩
  have R2 := Lib.hid hr
  have K2 := Lib.hid hk
  clear hk hr
  have T2 : Hid (Kept w v2) := T1.out.trans K2.out
  go_wp2_with fail
  refine (zzIdxPaths_any a1 n1 c1 idx v2 (H1.out.kept T2.out) (by omega)).mono ?_
  rintro e v3 ⟨b3, Q3, rfl, _, hr, hk⟩
  have R3 := Lib.hid hr
  have K3 := Lib.hid hk
  clear hk hr
  have T3 : Hid (Kept w v3) := T2.out.trans K3.out
  go_wp2_with fail
  refine (call_nil b2 n0 z (some ⟨b3, 0, none⟩) n1 n1 Q3 idx v3 (rowIs_kept R2.out (K3.out)) (by omega) (by omega) R3.out HI.out 2).mono ?_
  rintro e v4 ⟨b4, rfl, hr, hk⟩
  have R4 := Lib.hid hr
  have K4 := Lib.hid hk
  clear hk hr
  have T4 : Hid (Kept w v4) := T3.out.trans K4.out
  go_wp2_with fail
  refine (zzAsInts_any (some ⟨b4, 0, none⟩) _ n0 (fun s => (kl (gm n0 z idx n1) n0).getD s 0) v4 R4.out (by omega)).mono ?_
  rintro e v5 ⟨b5, rfl, hr, hk⟩
  have R5 := Lib.hid hr
  have K5 := Lib.hid hk
  clear hk hr
  have T5 : Hid (Kept w v5) := T4.out.trans K5.out
  go_wp2_with fail
  refine (zzSameInts_true _ _ _ _ _ (fun s => (kl (gm n0 z idx n1) n0).getD s 0) v5 R5.out (R1.out.kept ((((K2.out).trans K3.out).trans K4.out).trans K5.out)) (by omega)).mono ?_
  rintro e v6 ⟨rfl, m6, hm⟩
  have K6 : Hid (Kept v5 v6) := by rw [hm]; exact kept_drewN _ _
  clear hm
  have T6 : Hid (Kept w v6) := T5.out.trans K6.out
  go_wp2_with fail
  refine (zzAnyInts_any a0 n0 c0 z v6 (H0.out.kept T6.out) (by omega)).mono ?_
  rintro e v7 ⟨b7, rfl, _, hr, hk⟩
  have R7 := Lib.hid hr
  have K7 := Lib.hid hk
  clear hk hr
  have T7 : Hid (Kept w v7) := T6.out.trans K7.out
  go_wp2_with fail
  refine (zzIdxPaths_any a1 n1 c1 idx v7 (H1.out.kept T7.out) (by omega)).mono ?_
  rintro e v8 ⟨b8, Q8, rfl, _, hr, hk⟩
  have R8 := Lib.hid hr
  have K8 := Lib.hid hk
  clear hk hr
  have T8 : Hid (Kept w v8) := T7.out.trans K8.out
  go_wp2_with fail
  refine (call_fresh b7 n0 z (some ⟨b8, 0, none⟩) n1 n1 Q8 idx v8 (rowIs_kept R7.out (K8.out)) (by omega) (by omega) R8.out HI.out 2).mono ?_
  rintro e v9 ⟨b9, rfl, hr, hk⟩
  have R9 := Lib.hid hr
  have K9 := Lib.hid hk
  clear hk hr
  have T9 : Hid (Kept w v9) := T8.out.trans K9.out
  go_wp2_with fail
  refine (zzAsInts_any (some ⟨b9, 0, none⟩) _ n0 (fun s => (kl (gm n0 z idx n1) n0).getD s 0) v9 R9.out (by omega)).mono ?_
  rintro e v10 ⟨b10, rfl, hr, hk⟩
  have R10 := Lib.hid hr
  have K10 := Lib.hid hk
  clear hk hr
  have T10 : Hid (Kept w v10) := T9.out.trans K10.out
  go_wp2_with fail
  refine (zzSameInts_true _ _ _ _ _ (fun s => (kl (gm n0 z idx n1) n0).getD s 0) v10 R10.out (R1.out.kept (((((((((K2.out).trans K3.out).trans K4.out).trans K5.out).trans K6.out).trans K7.out).trans K8.out).trans K9.out).trans K10.out)) (by omega)).mono ?_
  rintro e v11 ⟨rfl, m11, hm⟩
  have K11 : Hid (Kept v10 v11) := by rw [hm]; exact kept_drewN _ _
  clear hm
  have T11 : Hid (Kept w v11) := T10.out.trans K11.out
  go_wp2
  go_ret
  exact ⟨rfl, T11.out⟩
end Go.Proofs.YtlchcilkdenjeaaGreatDoor
