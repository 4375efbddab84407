/- The contracts of setpath, funcSetpath and funcSetpathWithAllocator. -/
import Derived.Test.YtdhgaogjdjhokaaGreatDoorUpdate
import Derived.StillTailTactics
namespace Go.Proofs.YtdhgaogjdjhokaaGreatDoor
open Go.RowKit Go.Gq
set_option maxRecDepth 100000
/-- One result, of which R holds. -/
def One (R : Value → World → Prop) (e : Ending) (w' : World) : Prop := ∃ u, e = .returned u ∧ R u w'
/-- The wrap of an error of type T. -/
def Wrapped (T : TypeId) (w : World) (u : Value) (w' : World) : Prop := ∃ b a, u = .iface 61 (.pointer (some ⟨b, 0, none⟩)) ∧ w'.cell? ⟨b, 4, none⟩ = some (.iface T (.pointer a)) ∧ Kept w w'
/-- A refusal of the path. -/
def Refused (w : World) (u : Value) (w' : World) : Prop := ∃ a, u = .iface 70 (.pointer a) ∧ Kept w w'
set_option maxHeartbeats 400000 in
theorem setpath_ok {R : Value → World → Prop} (v dn : Value) (pa : Option Addr) (pl pc : Nat) (ma : Option Nat) (w : World)
    (hU : Calls Tryz.prog 37 #[v, .slice pa pl pc, dn, .map ma] w (Two fun u err w' => err = .nilIface ∧ R u w')) :
    Calls Tryz.prog 32 #[v, .iface 55 (.slice pa pl pc), dn, .map ma] w (One R) := by
  have HU := Lib.hid hU
  clear hU
  go_enter Tryz.func32, Tryz.ntmps32
  go_wp2_with fail
  refine HU.out.mono ?_
  rintro e w' ⟨u, err, rfl, rfl, hq⟩
  have Hq := Lib.hid hq
  clear hq
  go_wp2_with fail
  go_ret
  exact ⟨u, rfl, Hq.out⟩
set_option maxHeartbeats 400000 in
theorem setpath_err (T : TypeId) (hT : ∀ v W, (binOp .neq 63 (.iface T v) .nilIface).run Tryz.prog W = .ok (.bool true) W) (v : Value) (hv : v = .nilIface ∨ ∃ T x, v = .iface T x) (d : TypeId) (vn : Value) (pa : Option Addr) (pl pc : Nat) (ma : Option Nat) (w : World)
    (hU : Calls Tryz.prog 37 #[v, .slice pa pl pc, .iface d vn, .map ma] w (Two (Err T w))) :
    Calls Tryz.prog 32 #[v, .iface 55 (.slice pa pl pc), .iface d vn, .map ma] w (One (Wrapped T w)) := by
  have HU := Lib.hid hU
  clear hU
  rcases hv with rfl | ⟨T0, x0, rfl⟩
  all_goals
    go_enter Tryz.func32, Tryz.ntmps32
    go_wp2_with fail
    refine HU.out.mono ?_
    rintro e w' ⟨u, err, rfl, rfl, hk, a, rfl⟩
    have Hk := Lib.hid hk
    clear hk
    go_wp2_with fail
    go_ret
    exact ⟨_, rfl, w'.heap.size, a, rfl, by simp, Hk.out.trans (kept_alloc _ _)⟩
set_option maxHeartbeats 400000 in
theorem setpath_bad (v z n : Value) (hv : v = .nilIface ∨ ∃ T x, v = .iface T x) (ma : Option Nat) (w : World) :
    Calls Tryz.prog 32 #[v, .iface 3 z, n, .map ma] w (One (Refused w)) := by
  rcases hv with rfl | ⟨T0, x0, rfl⟩
  all_goals
    go_enter Tryz.func32, Tryz.ntmps32
    go_wp2_with fail
    go_ret
    exact ⟨_, rfl, _, rfl, kept_alloc _ _⟩
theorem funcSetpath_run {R : Value → World → Prop} (v p n : Value) (w : World) (h : Calls Tryz.prog 32 #[v, p, n, .map none] w (One R)) :
    Calls Tryz.prog 28 #[v, p, n] w (One R) := by
  have H := Lib.hid h
  clear h
  go_enter Tryz.func28, Tryz.ntmps28
  go_wp2_with fail
  refine H.out.mono ?_
  rintro e w' ⟨u, rfl, hq⟩
  have Hq := Lib.hid hq
  clear hq
  go_wp2_with fail
  go_ret
  exact ⟨u, rfl, Hq.out⟩
theorem funcSetpathWithAllocator_run {R : Value → World → Prop} (v p n : Value) (ab ac : Nat) (ma : Option Nat) (w : World)
    (h0 : w.cell? ⟨ab, 0, none⟩ = some p) (h1 : w.cell? ⟨ab, 1, none⟩ = some n) (h2 : w.cell? ⟨ab, 2, none⟩ = some (.iface 49 (.map ma)))
    (h : ∀ W, Kept w W → Calls Tryz.prog 32 #[v, p, n, .map ma] W (One R)) :
    Calls Tryz.prog 35 #[v, .slice (some ⟨ab, 0, none⟩) 3 ac] w (One R) := by
  have H := Lib.hid h
  clear h
  go_enter Tryz.func35, Tryz.ntmps35
  go_wp2_with fail
  go_still_tail 11, (by kernel_rfl)
  go_wp2_with fail
  refine (H.out _ (kept_drew w)).mono ?_
  rintro e w' ⟨u, rfl, hq⟩
  have Hq := Lib.hid hq
  clear hq
  go_wp2_with fail
  go_ret
  exact ⟨u, rfl, Hq.out⟩
end Go.Proofs.YtdhgaogjdjhokaaGreatDoor
