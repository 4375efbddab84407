/- The walk of FnSetpathInternalExact. -/
import Derived.Test.YtdhgaogjdjhokaaGreatDoorGuard
import Derived.Test.YtdhgaogjdjhokaaGreatDoorPlumbe
namespace Go.Proofs.YtdhgaogjdjhokaaGreatDoor
open Go.RowKit Go.Gq
set_option maxRecDepth 100000
set_option maxHeartbeats 4000000 in
theorem FnSetpathInternalExact_walk (kind : Int) (a0 : Option Addr) (n0 c0 : Nat) (a1 : Option Addr) (n1 c1 : Nat) (xs : List Int) (ss : List ByteArray) (pkind idx : Int) (key : ByteArray) (n : Int) (ub : Bool) (w : World)
    (h0 : Rd w a0 n0 (vi xs)) (h1 : Rd w a1 n1 (vs ss)) (m0 : n0 ≤ 9223372036854775807) (m1 : n1 ≤ 9223372036854775807) (mk : key.size ≤ 9223372036854775807) (ms : ∀ i, i < n1 → (ss.getD i ByteArray.empty).size ≤ 9223372036854775807) (hi0 : -9223372036854775808 ≤ idx) :
    Calls Tryz.prog 4 #[.int .i64 kind, .slice a0 n0 c0, .slice a1 n1 c1, .int .i64 pkind, .int .i64 idx, .string key, .int .i64 n, .bool ub] w (TrueKept w) := by
  have H0 := Lib.hid h0
  have H1 := Lib.hid h1
  have HS := Lib.hid ms
  clear h0 h1 ms
  go_enter Tryz.func4, Tryz.ntmps4
  go_wp2_with fail
  refine (zzBytes_FnSetpathInternalExact_any kind a0 n0 c0 a1 n1 c1 ss pkind idx n key ub w m0 m1 mk HS.out H1.out).mono ?_
  rintro e w1 ⟨b, rfl, rfl⟩
  cases b with
  | false =>
    go_wp2
    go_ret
    exact ⟨rfl, Below.refl _ _⟩
  | true =>
  by_cases g0 : 65536 < n0
  · go_wp2
    go_ret
    exact ⟨rfl, Below.refl _ _⟩
  by_cases g1 : 4096 < n1
  · go_wp2
    go_ret
    exact ⟨rfl, Below.refl _ _⟩
  by_cases g2 : 1048576 < key.size
  · go_wp2
    go_ret
    exact ⟨rfl, Below.refl _ _⟩
  go_wp2_with fail
  refine (zzBytes_b2_any a0 n0 c0 a1 n1 c1 ss key w (by omega) (by omega) (by omega) HS.out H1.out).mono ?_
  rintro e w1 ⟨z, rfl, rfl⟩
  by_cases g3 : 1048576 < z
  · go_wp2
    go_ret
    exact ⟨rfl, Below.refl _ _⟩
  go_wp2_with fail
  refine (zzPremise_b2_any kind a0 n0 c0 a1 n1 c1 pkind idx w (by omega) (by omega)).mono ?_
  rintro e w1 ⟨b, rfl, rfl, hp⟩
  cases b with
  | false =>
    clear hp
    go_wp2
    go_ret
    exact ⟨rfl, Below.refl _ _⟩
  | true =>
  have HP := Lib.hid (hp rfl)
  clear hp
  go_wp2_with fail
  refine (zzCloneInts_any a0 n0 c0 (fun i => xs.getD i 0) w (by omega) H0.out).mono ?_
  rintro e w1 ⟨b0, rfl, hr0, hk1⟩
  have R0 : Hid (Rd w1 b0 n0 (vi xs)) := hr0
  have K1 := Lib.hid hk1
  clear hr0 hk1
  go_wp2_with fail
  refine (zzCloneStrings_any a1 n1 c1 (fun i => ss.getD i ByteArray.empty) w1 (by omega) (H1.out.kept K1.out)).mono ?_
  rintro e w2 ⟨b1, rfl, hr1, hk2⟩
  have R1 : Hid (Rd w2 b1 n1 (vs ss)) := hr1
  have K2 := Lib.hid hk2
  clear hr1 hk2
  go_wp2_with fail
  refine (ZZsetpath_any kind b0 n0 n0 b1 n1 n1 xs ss pkind idx key n ub w2 (R0.out.kept K2.out) R1.out (by omega) (by omega) HP.out.2.1 hi0 HP.out.2.2).mono ?_
  rintro e w3 ⟨Sa, pa, qa, rfl, hS, hV1, hV2, hk3⟩
  obtain ⟨k1a, x1a, l1a, d1a, x2a, l2a, d2a, u1a, x3a, l3a, d3a, x4a, l4a, d4a, hs1⟩ := hV1.shape
  obtain ⟨k2a, y1a, j1a, g1a, y2a, j2a, g2a, u2a, y3a, j3a, g3a, y4a, j4a, g4a, hs2⟩ := hV2.shape
  subst hs1 hs2
  have HPa := Lib.hid hV1
  have HQa := Lib.hid hV2
  have KKa := Lib.hid hk3
  have HSa := Lib.hid hS
  clear hV1 hV2 hk3 hS
  unfold vagg
  go_wp2_with fail
  have BAa : ((w3.alloc (.cells #[.int .i64 k1a, .slice x1a l1a d1a, .slice x2a l2a d2a, .int .i64 u1a, .slice x3a l3a d3a, .slice x4a l4a d4a] 31)).alloc (.cells #[.int .i64 k2a, .slice y1a j1a g1a, .slice y2a j2a g2a, .int .i64 u2a, .slice y3a j3a g3a, .slice y4a j4a g4a] 31)).rowIs w3.heap.size 31 6 _ := row_of (l := [_, _, _, _, _, _]) ((heap_alloc_old _ _ (by simp)).trans (heap_alloc_new w3 _))
  have BBa : ((w3.alloc (.cells #[.int .i64 k1a, .slice x1a l1a d1a, .slice x2a l2a d2a, .int .i64 u1a, .slice x3a l3a d3a, .slice x4a l4a d4a] 31)).alloc (.cells #[.int .i64 k2a, .slice y1a j1a g1a, .slice y2a j2a g2a, .int .i64 u2a, .slice y3a j3a g3a, .slice y4a j4a g4a] 31)).rowIs (w3.heap.size + 1) 31 6 _ := row_of (l := [_, _, _, _, _, _]) (by have := heap_alloc_new (w3.alloc (.cells #[.int .i64 k1a, .slice x1a l1a d1a, .slice x2a l2a d2a, .int .i64 u1a, .slice x3a l3a d3a, .slice x4a l4a d4a] 31)) (.cells #[.int .i64 k2a, .slice y1a j1a g1a, .slice y2a j2a g2a, .int .i64 u2a, .slice y3a j3a g3a, .slice y4a j4a g4a] 31); simpa using this)
  have KA := Lib.hid ((kept_alloc w3 (.cells #[.int .i64 k1a, .slice x1a l1a d1a, .slice x2a l2a d2a, .int .i64 u1a, .slice x3a l3a d3a, .slice x4a l4a d4a] 31)).trans (kept_alloc _ (.cells #[.int .i64 k2a, .slice y1a j1a g1a, .slice y2a j2a g2a, .int .i64 u2a, .slice y3a j3a g3a, .slice y4a j4a g4a] 31)))
  have HBB := Lib.hid BBa
  clear BAa BBa
  refine (zzMatches_any kind b0 n0 n0 b1 n1 n1 xs ss pkind idx key n Sa (vagg k1a x1a l1a d1a x2a l2a d2a u1a x3a l3a d3a x4a l4a d4a) _ _ (((R0.out.kept K2.out).kept KKa.out).kept KA.out) ((R1.out.kept KKa.out).kept KA.out) (by omega) (by omega) HP.out.1.1 HP.out.1.2.1 HP.out.1.2.2.1 HP.out.1.2.2.2 HP.out.2.1 hi0 HP.out.2.2 HSa.out (HPa.out.kept KA.out)).mono ?_
  rintro e w5 ⟨rfl, hk5⟩
  have hBB := rowIs_kept HBB.out hk5
  have t0 := hBB.cell (i := 0) (by omega)
  have t1 := hBB.cell (i := 1) (by omega)
  have t2 := hBB.cell (i := 2) (by omega)
  have t3 := hBB.cell (i := 3) (by omega)
  have t4 := hBB.cell (i := 4) (by omega)
  have t5 := hBB.cell (i := 5) (by omega)
  simp only [List.getD_cons_succ, List.getD_cons_zero] at t0 t1 t2 t3 t4 t5
  have K5 := Lib.hid hk5
  clear hk5 hBB
  go_wp2_with fail
  refine (zzSameDoc_any kind b0 n0 n0 b1 n1 n1 xs ss key (vagg k2a y1a j1a g1a y2a j2a g2a u2a y3a j3a g3a y4a j4a g4a) _ _ ((((R0.out.kept K2.out).kept KKa.out).kept KA.out).kept K5.out) (((R1.out.kept KKa.out).kept KA.out).kept K5.out) (by omega) HP.out.1.1 HP.out.1.2.1 HP.out.2.1 (HQa.out.kept (KA.out.trans K5.out))).mono ?_
  rintro e w6 ⟨rfl, hk6⟩
  have K6 := Lib.hid hk6
  clear hk6
  go_wp2
  go_ret
  exact ⟨rfl, (((((K1.out.trans K2.out).trans KKa.out).trans KA.out).trans K5.out).trans K6.out)⟩
end Go.Proofs.YtdhgaogjdjhokaaGreatDoor
