/- The contracts of update at a path of one step: what the step's own function answers, or an error. -/
import Derived.Test.YtdlmdmpkjhnbmaaGreatDoorArr
namespace Go.Proofs.YtdlmdmpkjhnbmaaGreatDoor
open Go.RowKit Go.Gq
set_option maxRecDepth 100000
/-- Two results, of which Q holds. -/
def Two (Q : Value → Value → World → Prop) (e : Ending) (w' : World) : Prop := ∃ u err, e = .returned (.tuple #[u, err]) ∧ Q u err w'
section
variable {Q : Value → Value → World → Prop} (pb : Nat) (n : Value) (ma : Option Nat) (w : World)
set_option maxHeartbeats 400000 in
theorem update_key_obj (m : Option Nat) (k : ByteArray) (hp : w.cell? ⟨pb, 0, none⟩ = some (.iface 9 (.string k)))
    (hU : Calls Tryz.prog 34 #[.map m, .string k, .slice (some ⟨pb, 0, none⟩) 0 0, n, .map ma] w (Two Q)) :
    Calls Tryz.prog 45 #[.iface 84 (.map m), .slice (some ⟨pb, 0, none⟩) 1 1, n, .map ma] w (Two Q) := by
  have HU := Lib.hid hU
  clear hU
  go_enter Tryz.func45, Tryz.ntmps45
  go_wp2_with fail
  refine HU.out.mono ?_
  rintro e w' ⟨u, err, rfl, hq⟩
  have Hq := Lib.hid hq
  clear hq
  go_wp2_with fail
  go_ret2
  exact ⟨u, err, rfl, Hq.out⟩
set_option maxHeartbeats 400000 in
theorem update_key_nil (k : ByteArray) (hp : w.cell? ⟨pb, 0, none⟩ = some (.iface 9 (.string k)))
    (hU : Calls Tryz.prog 34 #[.map none, .string k, .slice (some ⟨pb, 0, none⟩) 0 0, n, .map ma] w (Two Q)) :
    Calls Tryz.prog 45 #[.nilIface, .slice (some ⟨pb, 0, none⟩) 1 1, n, .map ma] w (Two Q) := by
  have HU := Lib.hid hU
  clear hU
  go_enter Tryz.func45, Tryz.ntmps45
  go_wp2_with fail
  refine HU.out.mono ?_
  rintro e w' ⟨u, err, rfl, hq⟩
  have Hq := Lib.hid hq
  clear hq
  go_wp2_with fail
  go_ret2
  exact ⟨u, err, rfl, Hq.out⟩
set_option maxHeartbeats 400000 in
theorem update_idx_arr (va : Option Addr) (L vc : Nat) (i : Int) (hp : w.cell? ⟨pb, 0, none⟩ = some (.iface 3 (.int .i64 i)))
    (hU : Calls Tryz.prog 59 #[.slice va L vc, .int .i64 i, .slice (some ⟨pb, 0, none⟩) 0 0, n, .map ma] w (Two Q)) :
    Calls Tryz.prog 45 #[.iface 92 (.slice va L vc), .slice (some ⟨pb, 0, none⟩) 1 1, n, .map ma] w (Two Q) := by
  have HU := Lib.hid hU
  clear hU
  go_enter Tryz.func45, Tryz.ntmps45
  go_wp2_with fail
  refine (toInt_int i w).mono ?_
  rintro e w' ⟨rfl, rfl⟩
  go_wp2_with fail
  refine HU.out.mono ?_
  rintro e w' ⟨u, err, rfl, hq⟩
  have Hq := Lib.hid hq
  clear hq
  go_wp2_with fail
  go_ret2
  exact ⟨u, err, rfl, Hq.out⟩
set_option maxHeartbeats 400000 in
theorem update_idx_nil (i : Int) (hp : w.cell? ⟨pb, 0, none⟩ = some (.iface 3 (.int .i64 i)))
    (hU : Calls Tryz.prog 59 #[.slice none 0 0, .int .i64 i, .slice (some ⟨pb, 0, none⟩) 0 0, n, .map ma] w (Two Q)) :
    Calls Tryz.prog 45 #[.nilIface, .slice (some ⟨pb, 0, none⟩) 1 1, n, .map ma] w (Two Q) := by
  have HU := Lib.hid hU
  clear hU
  go_enter Tryz.func45, Tryz.ntmps45
  go_wp2_with fail
  refine (toInt_int i w).mono ?_
  rintro e w' ⟨rfl, rfl⟩
  go_wp2_with fail
  refine HU.out.mono ?_
  rintro e w' ⟨u, err, rfl, hq⟩
  have Hq := Lib.hid hq
  clear hq
  go_wp2_with fail
  go_ret2
  exact ⟨u, err, rfl, Hq.out⟩
end
/-- An error of that type, and nothing written. -/
def Err (T : TypeId) (w : World) (u err : Value) (w' : World) : Prop := u = .nilIface ∧ Kept w w' ∧ ∃ a, err = .iface T (.pointer a)
set_option maxHeartbeats 400000 in
theorem update_key_int (pb : Nat) (n : Value) (ma : Option Nat) (w : World) (k : ByteArray) (z : Value) (hp : w.cell? ⟨pb, 0, none⟩ = some (.iface 9 (.string k))) :
    Calls Tryz.prog 45 #[.iface 3 z, .slice (some ⟨pb, 0, none⟩) 1 1, n, .map ma] w (Two (Err 128 w)) := by
  go_enter Tryz.func45, Tryz.ntmps45
  go_wp2_with fail
  go_ret2
  exact ⟨_, _, rfl, rfl, kept_alloc _ _, _, rfl⟩
set_option maxHeartbeats 400000 in
theorem update_key_arr (pb : Nat) (n : Value) (ma : Option Nat) (w : World) (k : ByteArray) (z : Value) (hp : w.cell? ⟨pb, 0, none⟩ = some (.iface 9 (.string k))) :
    Calls Tryz.prog 45 #[.iface 92 z, .slice (some ⟨pb, 0, none⟩) 1 1, n, .map ma] w (Two (Err 128 w)) := by
  go_enter Tryz.func45, Tryz.ntmps45
  go_wp2_with fail
  go_ret2
  exact ⟨_, _, rfl, rfl, kept_alloc _ _, _, rfl⟩
set_option maxHeartbeats 400000 in
theorem update_idx_int (pb : Nat) (n : Value) (ma : Option Nat) (w : World) (i : Int) (z : Value) (hp : w.cell? ⟨pb, 0, none⟩ = some (.iface 3 (.int .i64 i))) :
    Calls Tryz.prog 45 #[.iface 3 z, .slice (some ⟨pb, 0, none⟩) 1 1, n, .map ma] w (Two (Err 124 w)) := by
  go_enter Tryz.func45, Tryz.ntmps45
  go_wp2_with fail
  refine (toInt_int i w).mono ?_
  rintro e w' ⟨rfl, rfl⟩
  go_wp2_with fail
  go_ret2
  exact ⟨_, _, rfl, rfl, kept_alloc _ _, _, rfl⟩
set_option maxHeartbeats 400000 in
theorem update_idx_obj (pb : Nat) (n : Value) (ma : Option Nat) (w : World) (i : Int) (z : Value) (hp : w.cell? ⟨pb, 0, none⟩ = some (.iface 3 (.int .i64 i))) :
    Calls Tryz.prog 45 #[.iface 84 z, .slice (some ⟨pb, 0, none⟩) 1 1, n, .map ma] w (Two (Err 124 w)) := by
  go_enter Tryz.func45, Tryz.ntmps45
  go_wp2_with fail
  refine (toInt_int i w).mono ?_
  rintro e w' ⟨rfl, rfl⟩
  go_wp2_with fail
  go_ret2
  exact ⟨_, _, rfl, rfl, kept_alloc _ _, _, rfl⟩
end Go.Proofs.YtdlmdmpkjhnbmaaGreatDoor
