/- The contract of zzAgree: true at two views that show the same. -/
import Derived.Test.YtdhgaogjdjhokaaGreatDoorGuard
namespace Go.Proofs.YtdhgaogjdjhokaaGreatDoor
open Go.RowKit Go.Gq
set_option maxRecDepth 100000
set_option maxHeartbeats 8000000 in
theorem zzAgree_true (k : Int) (m : Int) (l1 l2 l3 : Nat) (c1 c2 c3 c4 d1 d2 d3 d4 : Nat) (x1 x2 x3 x4 y1 y2 y3 y4 : Option Addr) (fI fV : Nat → Int) (fB fH : Nat → Bool) (w : World) (b1 : l1 ≤ 1048577) (b2 : l2 ≤ 1048577) (b3 : l3 ≤ 1048577) (h21 : l2 ≤ l1)
    (hx1 : Rd w x1 l1 (fun i => .int .i64 (fI i))) (hx2 : Rd w x2 l2 (fun i => .bool (fB i))) (hx3 : Rd w x3 l3 (fun i => .bool (fH i))) (hx4 : Rd w x4 l3 (fun i => .int .i64 (fV i)))
    (hy1 : Rd w y1 l1 (fun i => .int .i64 (fI i))) (hy2 : Rd w y2 l2 (fun i => .bool (fB i))) (hy3 : Rd w y3 l3 (fun i => .bool (fH i))) (hy4 : Rd w y4 l3 (fun i => .int .i64 (fV i))) :
    Calls Tryz.prog 23 #[vagg k x1 l1 c1 x2 l2 c2 m x3 l3 c3 x4 l3 c4, vagg k y1 l1 d1 y2 l2 d2 m y3 l3 d3 y4 l3 d4] w (TrueKept w) := by
  unfold vagg
  obtain ⟨W, HW⟩ : ∃ W : World, W = (w.alloc (.cells #[.int .i64 k, .slice x1 l1 c1, .slice x2 l2 c2, .int .i64 m, .slice x3 l3 c3, .slice x4 l3 c4] 31)).alloc (.cells #[.int .i64 k, .slice y1 l1 d1, .slice y2 l2 d2, .int .i64 m, .slice y3 l3 d3, .slice y4 l3 d4] 31) := ⟨_, rfl⟩
  have hk0 : Kept w W := by rw [HW]; exact (kept_alloc _ _).trans (kept_alloc _ _)
  have hA : W.rowIs w.heap.size 31 6 (fun j => [Value.int .i64 k, .slice x1 l1 c1, .slice x2 l2 c2, .int .i64 m, .slice x3 l3 c3, .slice x4 l3 c4].getD j undef) := by
    rw [HW]; exact rowIs_kept (row_of (l := [_, _, _, _, _, _]) (heap_alloc_new w _)) (kept_alloc _ _)
  have hB : W.rowIs (w.heap.size + 1) 31 6 (fun j => [Value.int .i64 k, .slice y1 l1 d1, .slice y2 l2 d2, .int .i64 m, .slice y3 l3 d3, .slice y4 l3 d4].getD j undef) := by
    rw [HW]
    exact row_of (l := [_, _, _, _, _, _]) (by have := heap_alloc_new (w.alloc (.cells #[.int .i64 k, .slice x1 l1 c1, .slice x2 l2 c2, .int .i64 m, .slice x3 l3 c3, .slice x4 l3 c4] 31)) (.cells #[.int .i64 k, .slice y1 l1 d1, .slice y2 l2 d2, .int .i64 m, .slice y3 l3 d3, .slice y4 l3 d4] 31); simpa using this)
  have s0 := hA.cell (i := 0) (by omega)
  have s1 := hA.cell (i := 1) (by omega)
  have s2 := hA.cell (i := 2) (by omega)
  have s3 := hA.cell (i := 3) (by omega)
  have s4 := hA.cell (i := 4) (by omega)
  have s5 := hA.cell (i := 5) (by omega)
  have t0 := hB.cell (i := 0) (by omega)
  have t1 := hB.cell (i := 1) (by omega)
  have t2 := hB.cell (i := 2) (by omega)
  have t3 := hB.cell (i := 3) (by omega)
  have t4 := hB.cell (i := 4) (by omega)
  have t5 := hB.cell (i := 5) (by omega)
  simp only [List.getD_cons_succ, List.getD_cons_zero] at s0 s1 s2 s3 s4 s5 t0 t1 t2 t3 t4 t5
  have HX1 := Lib.hid (hx1.kept hk0)
  have HX2 := Lib.hid (hx2.kept hk0)
  have HX3 := Lib.hid (hx3.kept hk0)
  have HX4 := Lib.hid (hx4.kept hk0)
  have HY1 := Lib.hid (hy1.kept hk0)
  have HY2 := Lib.hid (hy2.kept hk0)
  have HY3 := Lib.hid (hy3.kept hk0)
  have HY4 := Lib.hid (hy4.kept hk0)
  have q1 : (k != k) = false := by simp
  have q2 : (m != m) = false := by simp
  have q3 : ((l1 : Int) != (l1 : Int)) = false := by simp
  have q4 : ((l2 : Int) != (l2 : Int)) = false := by simp
  have q5 : ((l3 : Int) != (l3 : Int)) = false := by simp
  have HK := Lib.hid hk0
  have HW' := HW.symm
  clear hx1 hx2 hx3 hx4 hy1 hy2 hy3 hy4 hk0 hA hB HW
  go_enter Tryz.func23, Tryz.ntmps23
  go_wp2_with fail
  go_loopw [5] (fun i wr => ∃ (q r : Nat), q ≤ l2 ∧ i = .int .i64 q ∧ wr = W.drewN r) (fun i _ => l2 - (intOf i).toNat)
  case atStart => exact ⟨0, 0, Nat.zero_le _, rfl, rfl⟩
  case round =>
    obtain ⟨q, r, hq, rfl, rfl⟩ := hrel
    by_cases hlt : q < l2
    · obtain ⟨xb, xo, e1, hc1⟩ := HX2.out.at hlt
      obtain ⟨yb, yo, e2, hc2⟩ := HY2.out.at hlt
      subst e1 e2
      have q6 : (fB q != fB q) = false := by simp
      have q7 : (0 : Int) ≤ (q : Int) := by omega
      have q8 : (q : Int) < (l2 : Int) := by omega
      go_wp2_with fail
      go_quiet (fail)
      go_wp2
      go_roundw
      case rel => exact ⟨q + 1, _, by omega, by go_num, rfl⟩
      case measure => simp [intOf]; omega
    · obtain rfl : q = l2 := by omega
      go_wp2
      go_loopw [6] (fun i wr => ∃ (t r : Nat), t ≤ l1 ∧ i = .int .i64 t ∧ wr = W.drewN r) (fun i _ => l1 - (intOf i).toNat)
      case atStart => exact ⟨0, _, Nat.zero_le _, rfl, rfl⟩
      case round =>
        obtain ⟨t, r', ht, rfl, rfl⟩ := hrel
        by_cases hlt1 : t < l1
        · obtain ⟨xb, xo, e1, hc1⟩ := HX1.out.at hlt1
          obtain ⟨yb, yo, e2, hc2⟩ := HY1.out.at hlt1
          subst e1 e2
          have q6 : (fI t != fI t) = false := by simp
          have q7 : (0 : Int) ≤ (t : Int) := by omega
          have q8 : (t : Int) < (l1 : Int) := by omega
          by_cases hlt2 : t < q
          · obtain ⟨zb, zo, e3, hc3⟩ := HX2.out.at hlt2
            subst e3
            have q9 : (t : Int) < (q : Int) := by omega
            cases hB : fB t with
            | true =>
              rw [hB] at hc3
              clear hB
              go_wp2
              go_roundw
              case rel => exact ⟨t + 1, _, by omega, by go_num, rfl⟩
              case measure => simp [intOf]; omega
            | false =>
              rw [hB] at hc3
              clear hB
              go_wp2_with fail
              go_quiet (fail)
              go_wp2
              go_roundw
              case rel => exact ⟨t + 1, _, by omega, by go_num, rfl⟩
              case measure => simp [intOf]; omega
          · have q9 : ¬ (t : Int) < (q : Int) := by omega
            go_wp2_with fail
            go_quiet (fail)
            go_wp2
            go_roundw
            case rel => exact ⟨t + 1, _, by omega, by go_num, rfl⟩
            case measure => simp [intOf]; omega
        · obtain rfl : t = l1 := by omega
          go_wp2
          go_loopw [7] (fun i wr => ∃ (t r : Nat), t ≤ l3 ∧ i = .int .i64 t ∧ wr = W.drewN r) (fun i _ => l3 - (intOf i).toNat)
          case atStart => exact ⟨0, _, Nat.zero_le _, rfl, rfl⟩
          case round =>
            obtain ⟨s, r', hs, rfl, rfl⟩ := hrel
            by_cases hlt3 : s < l3
            · obtain ⟨xb, xo, e1, hc1⟩ := HX3.out.at hlt3
              obtain ⟨yb, yo, e2, hc2⟩ := HY3.out.at hlt3
              obtain ⟨zb, zo, e3, hc3⟩ := HX4.out.at hlt3
              obtain ⟨ub, uo, e4, hc4⟩ := HY4.out.at hlt3
              subst e1 e2 e3 e4
              have q7 : (0 : Int) ≤ (s : Int) := by omega
              have q8 : (s : Int) < (l3 : Int) := by omega
              have q6 : (fV s != fV s) = false := by simp
              cases hH : fH s with
              | true =>
                rw [hH] at hc1 hc2
                clear hH
                go_wp2_with fail
                go_quiet (fail)
                go_wp2_with fail
                go_quiet (fail)
                go_wp2
                go_roundw
                case rel => exact ⟨s + 1, _, by omega, by go_num, rfl⟩
                case measure => simp [intOf]; omega
              | false =>
                rw [hH] at hc1 hc2
                clear hH
                go_wp2_with fail
                go_quiet (fail)
                go_wp2_with fail
                go_quiet (fail)
                go_wp2
                go_roundw
                case rel => exact ⟨s + 1, _, by omega, by go_num, rfl⟩
                case measure => simp [intOf]; omega
            · obtain rfl : s = l3 := by omega
              go_wp2
              go_ret
              exact ⟨rfl, HK.out.trans (kept_drewN _ _)⟩
end Go.Proofs.YtdhgaogjdjhokaaGreatDoor
