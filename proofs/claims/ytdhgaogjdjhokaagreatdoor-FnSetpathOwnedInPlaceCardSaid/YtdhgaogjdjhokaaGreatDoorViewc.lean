/- The contract of zzView at an int and at the errors. -/
import Derived.Test.YtdhgaogjdjhokaaGreatDoorView
namespace Go.Proofs.YtdhgaogjdjhokaaGreatDoor
open Go.RowKit Go.Gq
set_option maxRecDepth 100000
set_option maxHeartbeats 400000 in
theorem zzView_int (z : Int) (a1 : Option Addr) (n1 c1 : Nat) (key : ByteArray) (w : World) :
    Calls Tryz.prog 30 #[ia z, .slice a1 n1 c1, .string key] w fun e w' => ∃ ai, w.heap.size ≤ ai.block ∧ e = .returned (.agg #[.int .i64 3, .slice (some ai) 1 1, .slice none 0 0, .int .i64 0, .slice none 0 0, .slice none 0 0]) ∧ Rd w' (some ai) 1 (fun _ => .int .i64 z) ∧ Kept w w' := by
  unfold ia
  go_enter Tryz.func30, Tryz.ntmps30
  go_wp2
  refine bodyPost_ret (v := .agg #[.int .i64 3, .slice (some ⟨w.heap.size + 1, 0, none⟩) 1 1, .slice none 0 0, .int .i64 0, .slice none 0 0, .slice none 0 0]) (by simp [results, Tryz.results30, go_sem]) rfl ⟨⟨w.heap.size + 1, 0, none⟩, Nat.le_succ _, rfl, ?_, ?_⟩
  · refine .inr ⟨_, _, rfl, fun i hi => ?_⟩
    obtain rfl : i = 0 := by omega
    simp
  · exact (kept_alloc _ _).trans (kept_alloc _ _)
set_option maxHeartbeats 400000 in
theorem zzView_wrap_ail (b : Nat) (x : Option Addr) (a1 : Option Addr) (n1 c1 : Nat) (key : ByteArray) (w : World) (h : w.cell? ⟨b, 4, none⟩ = some (.iface 67 (.pointer x))) :
    Calls Tryz.prog 30 #[.iface 61 (.pointer (some ⟨b, 0, none⟩)), .slice a1 n1 c1, .string key] w fun e w' => e = .returned (kindAgg 11) ∧ Kept w w' := by
  have hb : b < w.heap.size := cell_lt h
  go_enter Tryz.func30, Tryz.ntmps30
  go_wp2
  refine bodyPost_ret (v := kindAgg 11) (by simp [results, Tryz.results30, go_sem, kindAgg]) rfl ⟨rfl, ?_⟩
  exact kept_alloc _ _
set_option maxHeartbeats 400000 in
theorem zzView_wrap_eo (b : Nat) (x : Option Addr) (a1 : Option Addr) (n1 c1 : Nat) (key : ByteArray) (w : World) (h : w.cell? ⟨b, 4, none⟩ = some (.iface 68 (.pointer x))) :
    Calls Tryz.prog 30 #[.iface 61 (.pointer (some ⟨b, 0, none⟩)), .slice a1 n1 c1, .string key] w fun e w' => e = .returned (kindAgg 12) ∧ Kept w w' := by
  have hb : b < w.heap.size := cell_lt h
  go_enter Tryz.func30, Tryz.ntmps30
  go_wp2
  refine bodyPost_ret (v := kindAgg 12) (by simp [results, Tryz.results30, go_sem, kindAgg]) rfl ⟨rfl, ?_⟩
  exact kept_alloc _ _
set_option maxHeartbeats 400000 in
theorem zzView_wrap_ea (b : Nat) (x : Option Addr) (a1 : Option Addr) (n1 c1 : Nat) (key : ByteArray) (w : World) (h : w.cell? ⟨b, 4, none⟩ = some (.iface 69 (.pointer x))) :
    Calls Tryz.prog 30 #[.iface 61 (.pointer (some ⟨b, 0, none⟩)), .slice a1 n1 c1, .string key] w fun e w' => e = .returned (kindAgg 13) ∧ Kept w w' := by
  have hb : b < w.heap.size := cell_lt h
  go_enter Tryz.func30, Tryz.ntmps30
  go_wp2
  refine bodyPost_ret (v := kindAgg 13) (by simp [results, Tryz.results30, go_sem, kindAgg]) rfl ⟨rfl, ?_⟩
  exact kept_alloc _ _
set_option maxHeartbeats 400000 in
theorem zzView_refused (x : Option Addr) (a1 : Option Addr) (n1 c1 : Nat) (key : ByteArray) (w : World) :
    Calls Tryz.prog 30 #[.iface 70 (.pointer x), .slice a1 n1 c1, .string key] w fun e w' => e = .returned (kindAgg 14) ∧ Kept w w' := by
  go_enter Tryz.func30, Tryz.ntmps30
  go_wp2
  refine bodyPost_ret (v := kindAgg 14) (by simp [results, Tryz.results30, go_sem, kindAgg]) rfl ⟨rfl, ?_⟩
  exact kept_alloc _ _
end Go.Proofs.YtdhgaogjdjhokaaGreatDoor
