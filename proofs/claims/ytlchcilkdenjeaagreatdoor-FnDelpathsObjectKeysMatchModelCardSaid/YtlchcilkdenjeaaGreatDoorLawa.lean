/- The walk of FnDelpathsArrayIndicesMatchMarkModel. -/
import Derived.Test.YtlchcilkdenjeaaGreatDoorZz
namespace Go.Proofs.YtlchcilkdenjeaaGreatDoor
open Go.RowKit Go.Gq
set_option maxRecDepth 100000
def TrueKept (w : World) (e : Ending) (w' : World) : Prop := e = .returned (.bool true) ∧ Kept w w'
/-- A bool, and nothing written. -/
def SomeBool (w : World) (e : Ending) (w' : World) : Prop := ∃ b, e = .returned (.bool b) ∧ w = w'
set_option maxHeartbeats 1000000 in
theorem zzBytesA_any (a0 : Option Addr) (n0 c0 : Nat) (a1 : Option Addr) (n1 c1 : Nat) (w : World) (h0 : n0 ≤ 9223372036854775807) (h1 : n1 ≤ 9223372036854775807) :
    Calls Tryz.prog 12 #[.slice a0 n0 c0, .slice a1 n1 c1] w (SomeBool w) := by
  by_cases g0 : n0 ≤ 1048576
  rotate_left
  · go_enter Tryz.func12, Tryz.ntmps12
    go_wp2
    go_ret
    exact ⟨false, rfl, rfl⟩
  by_cases g1 : n1 ≤ 1048576
  rotate_left
  · go_enter Tryz.func12, Tryz.ntmps12
    go_wp2
    go_ret
    exact ⟨false, rfl, rfl⟩
  by_cases g2 : n0 + n1 ≤ 1048576
  rotate_left
  · go_enter Tryz.func12, Tryz.ntmps12
    go_wp2
    go_ret
    exact ⟨false, rfl, rfl⟩
  go_enter Tryz.func12, Tryz.ntmps12
  go_wp2
  go_ret
  exact ⟨true, rfl, rfl⟩
set_option maxHeartbeats 4000000 in
theorem FnDelpathsArrayIndicesMatchMarkModel_walk (a0 : Option Addr) (n0 c0 : Nat) (a1 : Option Addr) (n1 c1 : Nat) (z idx : Nat → Int) (w : World) (h0 : Rd w a0 n0 (fun i => .int .i64 (z i))) (h1 : Rd w a1 n1 (fun i => .int .i64 (idx i)))
    (m0 : n0 ≤ 9223372036854775807) (m1 : n1 ≤ 9223372036854775807) (hi : ∀ j, j < n1 → -9223372036854775808 ≤ idx j ∧ idx j ≤ 9223372036854775807) :
    Calls Tryz.prog 3 #[.slice a0 n0 c0, .slice a1 n1 c1] w (TrueKept w) := by
  have H0 := Lib.hid h0
  have H1 := Lib.hid h1
  have HI := Lib.hid hi
  clear h0 h1 hi
  go_enter Tryz.func3, Tryz.ntmps3
  go_wp2_with fail
  refine (zzBytesA_any a0 n0 c0 a1 n1 c1 w m0 m1).mono ?_
  rintro e w1 ⟨b, rfl, rfl⟩
  cases b with
  | false =>
    go_wp2
    go_ret
    exact ⟨rfl, Below.refl _ _⟩
  | true =>
  by_cases g0 : 65536 < n0
  · go_wp2
    go_ret
    exact ⟨rfl, Below.refl _ _⟩
  by_cases g1 : 65536 < n1
  · go_wp2
    go_ret
    exact ⟨rfl, Below.refl _ _⟩
  go_wp2_with fail
  refine (zzAnyInts_any a0 n0 c0 z w H0.out (by omega)).mono ?_
  rintro e w1 ⟨b1, rfl, hb1, hr1, hk1⟩
  have R1 := Lib.hid hr1
  have K1 := Lib.hid hk1
  clear hr1 hk1
  go_wp2_with fail
  refine (zzIdxPaths_any a1 n1 c1 idx w1 (H1.out.kept K1.out) (by omega)).mono ?_
  rintro e w2 ⟨b2, Q, rfl, hb2, hr2, hk2⟩
  have R2 := Lib.hid hr2
  have K2 := Lib.hid hk2
  clear hr2 hk2
  go_wp2_with fail
  refine (ZZfuncDelpaths_any b1 n0 z (some ⟨b2, 0, none⟩) n1 n1 Q idx w2 (rowIs_kept R1.out K2.out) (by omega) (by omega) R2.out HI.out).mono ?_
  rintro e w3 ⟨b3, rfl, hr3, hk3⟩
  have hle := kl_len (gm n0 z idx n1) n0
  have R3 := Lib.hid hr3
  have K3 := Lib.hid hk3
  clear hr3 hk3
  go_wp2_with fail
  refine (zzAsInts_any (some ⟨b3, 0, none⟩) _ n0 (fun s => (kl (gm n0 z idx n1) n0).getD s 0) w3 R3.out (by omega)).mono ?_
  rintro e w4 ⟨b4, rfl, hr4, hk4⟩
  have R4 := Lib.hid hr4
  have K4 := Lib.hid hk4
  clear hr4 hk4
  have K04 := Lib.hid (((K1.out.trans K2.out).trans K3.out).trans K4.out)
  go_wp2_with fail
  refine (zzMarkModel_any a0 a1 n0 n1 c0 c1 z idx w4 (H0.out.kept K04.out) (H1.out.kept K04.out) (by omega) (by omega) HI.out).mono ?_
  rintro e w5 ⟨b5, rfl, hr5, hk5⟩
  have R5 := Lib.hid hr5
  have K5 := Lib.hid hk5
  clear hr5 hk5
  go_wp2_with fail
  refine (zzSameInts_true _ _ _ _ _ (fun s => (kl (gm n0 z idx n1) n0).getD s 0) w5 (R4.out.kept K5.out) R5.out (by omega)).mono ?_
  rintro e w6 ⟨rfl, m, rfl⟩
  go_wp2
  go_ret
  exact ⟨rfl, (K04.out.trans K5.out).trans (kept_drewN _ _)⟩
end Go.Proofs.YtlchcilkdenjeaaGreatDoor
