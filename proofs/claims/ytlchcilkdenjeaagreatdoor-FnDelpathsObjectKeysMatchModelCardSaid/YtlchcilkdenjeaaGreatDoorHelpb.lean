/- The contracts of zzAsInts, zzSameInts and zzMarkModel. -/
import Derived.Test.YtlchcilkdenjeaaGreatDoorHelp
namespace Go.Proofs.YtlchcilkdenjeaaGreatDoor
open Go.RowKit Go.Gq
set_option maxRecDepth 100000
set_option maxHeartbeats 1000000 in
theorem zzAsInts_any (a : Option Addr) (n c : Nat) (z : Nat → Int) (w : World) (h : Rd w a n (fun i => ib (z i))) (hn : n ≤ 1048576) :
    Calls Tryz.prog 16 #[.iface 25 (.slice a n c)] w fun e w' => ∃ b, e = .returned (.tuple #[.slice (some ⟨b, 0, none⟩) n n, .bool true]) ∧ Rd w' (some ⟨b, 0, none⟩) n (fun i => .int .i64 (z i)) ∧ Kept w w' := by
  have hmk := make_ints n n (Nat.le_refl _) (by omega)
  go_enter Tryz.func16, Tryz.ntmps16
  go_wp2
  obtain ⟨W, HW⟩ : ∃ W : World, W = w.alloc (.cells (madeCells #[Value.int .i64 0] n) 3) := ⟨_, rfl⟩
  have hrow : W.rowIs w.heap.size 3 n (fun _ => .int .i64 0) := by rw [HW]; exact World.rowIs_made w _ n 3
  have hk : Kept w W := by rw [HW]; exact kept_alloc _ _
  rw [← HW]
  clear HW hmk
  go_loopw [7] (fun i wr => ∃ k : Nat, k ≤ n ∧ i = .int .i64 k ∧ wr.rowIs w.heap.size 3 n (fun j => if j < k then .int .i64 (z j) else .int .i64 0) ∧ Kept w wr) (fun i _ => n - (intOf i).toNat)
  case atStart => exact ⟨0, Nat.zero_le _, rfl, by simpa using hrow, hk⟩
  case round =>
    obtain ⟨k, hk, rfl, hrow, hkp⟩ := hrel
    by_cases hlt : k < n
    · obtain ⟨b, off, rfl, hc⟩ := (h.kept hkp).at hlt
      have hd := hrow.cell hlt
      have hz := hrow.frozen k
      have hset := (hrow.set k (.int .i64 (z k))).congr (g := fun j => if j < k + 1 then .int .i64 (z j) else .int .i64 0) (fun j hj => by
        by_cases e : j = k
        · subst e; simp
        · simp only [if_neg e]; by_cases e2 : j < k
          · rw [if_pos e2, if_pos (by omega)]
          · rw [if_neg e2, if_neg (by omega)])
      have hkp2 := hkp.setCell (p := ⟨w.heap.size, k, none⟩) (Nat.le_refl _) (.int .i64 (z k))
      have Hset := Lib.hid hset
      have Hkp := Lib.hid hkp2
      simp only [Nat.lt_irrefl, if_false] at hd
      clear hset hkp2 hrow hkp h
      go_wp2
      go_roundw
      case rel => exact ⟨k + 1, by omega, by go_num, Hset.out, Hkp.out⟩
      case measure => simp [intOf]; omega
    · have : k = n := by omega
      subst this
      go_wp2
      go_ret2
      exact ⟨_, rfl, rd_row (hrow.congr fun i hi => by simp [hi]), hkp⟩
set_option maxHeartbeats 1000000 in
theorem zzSameInts_true (a a' : Option Addr) (n c c' : Nat) (z : Nat → Int) (w : World) (h : Rd w a n (fun i => .int .i64 (z i))) (h' : Rd w a' n (fun i => .int .i64 (z i))) (hn : n ≤ 1048576) :
    Calls Tryz.prog 17 #[.slice a n c, .slice a' n c'] w fun e w' => e = .returned (.bool true) ∧ ∃ m, w' = w.drewN m := by
  go_enter Tryz.func17, Tryz.ntmps17
  have q1 : ((n : Int) != (n : Int)) = false := by simp
  go_wp2
  go_loopw [5] (fun i wr => ∃ (k m : Nat), k ≤ n ∧ i = .int .i64 k ∧ wr = w.drewN m) (fun i _ => n - (intOf i).toNat)
  case atStart => exact ⟨0, 0, Nat.zero_le _, rfl, rfl⟩
  case round =>
    obtain ⟨k, m, hk, rfl, rfl⟩ := hrel
    by_cases hlt : k < n
    · obtain ⟨b, off, rfl, hc⟩ := h.at hlt
      obtain ⟨b', off', rfl, hc'⟩ := h'.at hlt
      have q2 : (z k != z k) = false := by simp
      have q3 : (0 : Int) ≤ (k : Int) := by omega
      have q4 : (k : Int) < (n : Int) := by omega
      clear h h'
      go_wp2_with fail
      go_quiet (fail)
      go_wp2
      go_roundw
      case rel => exact ⟨k + 1, _, by omega, by go_num, rfl⟩
      case measure => simp [intOf]; omega
    · have : k = n := by omega
      subst this
      go_wp2
      go_ret
      exact ⟨rfl, _, rfl⟩
end Go.Proofs.YtlchcilkdenjeaaGreatDoor
