/- More contracts: update at a bool step, delpaths at one path, delpaths where it refuses. -/
import Derived.Test.YtlchcilkdenjeaaGreatDoorDelpb
import Derived.Test.YtlchcilkdenjeaaGreatDoorZzc
namespace Go.Proofs.YtlchcilkdenjeaaGreatDoor
open Go.RowKit Go.Gq
set_option maxRecDepth 100000
set_option maxHeartbeats 400000 in
theorem update_bool_nil (pb : Nat) (n : Value) (ma : Option Nat) (w : World) (z : Value) (hp : w.cell? ⟨pb, 0, none⟩ = some (.iface 4 z)) :
    Calls Tryz.prog 34 #[.nilIface, .slice (some ⟨pb, 0, none⟩) 1 1, n, .map ma] w (Two (Err 71 w)) := by
  go_enter Tryz.func34, Tryz.ntmps34
  go_wp2_with fail
  go_ret2
  exact ⟨_, _, rfl, rfl, kept_alloc _ _, _, rfl⟩
set_option maxHeartbeats 400000 in
theorem update_bool_arr (pb : Nat) (n : Value) (ma : Option Nat) (w : World) (z v : Value) (hp : w.cell? ⟨pb, 0, none⟩ = some (.iface 4 z)) :
    Calls Tryz.prog 34 #[.iface 25 v, .slice (some ⟨pb, 0, none⟩) 1 1, n, .map ma] w (Two (Err 69 w)) := by
  go_enter Tryz.func34, Tryz.ntmps34
  go_wp2_with fail
  go_ret2
  exact ⟨_, _, rfl, rfl, kept_alloc _ _, _, rfl⟩
/-- ZZupdate hands on what update answers. -/
theorem ZZupdate_run {Q : Value → Value → World → Prop} (v n : Value) (pa : Option Addr) (pl pc : Nat) (ma : Option Nat) (w : World)
    (hU : Calls Tryz.prog 34 #[v, .slice pa pl pc, n, .map ma] w (Two Q)) :
    Calls Tryz.prog 20 #[v, .slice pa pl pc, n, .map ma] w (Two Q) := by
  have HU := Lib.hid hU
  clear hU
  go_enter Tryz.func20, Tryz.ntmps20
  go_wp2_with fail
  refine HU.out.mono ?_
  rintro e w' ⟨u, err, rfl, hq⟩
  have Hq := Lib.hid hq
  clear hq
  go_wp2_with fail
  go_ret2
  exact ⟨u, err, rfl, Hq.out⟩
/-- One value, of which R holds. -/
def One (R : Value → World → Prop) (e : Ending) (w' : World) : Prop := ∃ u, e = .returned u ∧ R u w'
/-- ZZdelpaths hands on what delpaths answers. -/
theorem ZZdelpaths_run {R : Value → World → Prop} (v p : Value) (ma : Option Nat) (w : World)
    (h : Calls Tryz.prog 35 #[v, p, .map ma] w (One R)) :
    Calls Tryz.prog 22 #[v, p, .map ma] w (One R) := by
  have H := Lib.hid h
  clear h
  go_enter Tryz.func22, Tryz.ntmps22
  go_wp2_with fail
  refine H.out.mono ?_
  rintro e w' ⟨u, rfl, hq⟩
  have Hq := Lib.hid hq
  clear hq
  go_wp2_with fail
  go_ret
  exact ⟨u, rfl, Hq.out⟩
/-- An error of delpaths's: of one of two types. -/
def IsE (u : Value) : Prop := (∃ x, u = .iface 73 (.pointer x)) ∨ (∃ x, u = .iface 76 (.pointer x))
def DelErr (w : World) (u : Value) (w' : World) : Prop := IsE u ∧ Kept w w'
/-- The paths are no array. -/
theorem delpaths_str (v s : Value) (ma : Option Nat) (w : World) (hv : v = .nilIface ∨ ∃ T x, v = .iface T x) :
    Calls Tryz.prog 35 #[v, .iface 9 s, .map ma] w (One (DelErr w)) := by
  rcases hv with rfl | ⟨T, x, rfl⟩
  all_goals
    go_enter Tryz.func35, Tryz.ntmps35
    go_wp2_with fail
    go_ret
    exact ⟨_, rfl, .inl ⟨_, rfl⟩, kept_alloc _ _⟩
/-- No paths. -/
theorem delpaths_none (v : Value) (pa : Option Addr) (pc : Nat) (ma : Option Nat) (w : World) :
    Calls Tryz.prog 35 #[v, .iface 25 (.slice pa 0 pc), .map ma] w (One fun u w' => u = v ∧ w = w') := by
  go_enter Tryz.func35, Tryz.ntmps35
  go_wp2_with fail
  go_ret
  exact ⟨_, rfl, rfl, rfl⟩
set_option maxHeartbeats 2000000 in
/-- One path, no array. -/
theorem delpaths_elem (v s : Value) (hv : v = .nilIface ∨ ∃ T x, v = .iface T x) (qb : Nat) (ma : Option Nat) (w : World) (hq : w.cell? ⟨qb, 0, none⟩ = some (.iface 9 s)) :
    Calls Tryz.prog 35 #[v, .iface 25 (.slice (some ⟨qb, 0, none⟩) 1 1), .map ma] w (One (DelErr w)) := by
  have hlt := cell_lt hq
  simp at hlt
  rcases hv with rfl | ⟨T, x, rfl⟩
  all_goals
    go_enter Tryz.func35, Tryz.ntmps35
    go_wp2
    obtain ⟨W, HW⟩ : ∃ W : World, W = w.alloc (.cells #[] 57) := ⟨_, rfl⟩
    have hk0 : Kept w W := by rw [HW]; exact kept_alloc _ _
    have hq0 : W.cell? ⟨qb, 0, none⟩ = some (.iface 9 s) := kept_cell hk0 hq
    rw [← HW]
    have HK := Lib.hid hk0
    clear HW hk0 hq hlt
    go_loopw [10, 11, 35] (fun er u i wr => i = .int .i64 0 ∧ er = .nilIface ∧ u = _ ∧ wr = W) (fun _ _ _ _ => 0)
    case atStart => exact ⟨rfl, rfl, rfl, rfl⟩
    case round =>
      obtain ⟨rfl, rfl, rfl, rfl⟩ := hrel
      go_wp2
      go_ret
      exact ⟨_, rfl, .inr ⟨_, rfl⟩, HK.out.trans ((kept_alloc _ _).trans (kept_alloc _ _))⟩
set_option maxHeartbeats 2000000 in
/-- One path: update, then deleteEmpty of what it answers. -/
theorem delpaths_one {R : Value → World → Prop} (v : Value) (hv : v = .nilIface ∨ ∃ T x, v = .iface T x) (qb : Nat) (pa : Option Addr) (pl pc : Nat) (ma : Option Nat) (w : World) (hq : w.cell? ⟨qb, 0, none⟩ = some (.iface 25 (.slice pa pl pc)))
    (hU : ∀ W, Kept w W → Calls Tryz.prog 34 #[v, .slice pa pl pc, mk0, .map ma] W (Two fun u err w' => err = .nilIface ∧ Calls Tryz.prog 41 #[u] w' (One R))) :
    Calls Tryz.prog 35 #[v, .iface 25 (.slice (some ⟨qb, 0, none⟩) 1 1), .map ma] w (One R) := by
  have HU := Lib.hid hU
  clear hU
  rcases hv with rfl | ⟨T, x, rfl⟩
  all_goals
    go_enter Tryz.func35, Tryz.ntmps35
    go_wp2
    obtain ⟨W, HW⟩ : ∃ W : World, W = w.alloc (.cells #[] 57) := ⟨_, rfl⟩
    have hk0 : Kept w W := by rw [HW]; exact kept_alloc _ _
    have hq0 : W.cell? ⟨qb, 0, none⟩ = some (.iface 25 (.slice pa pl pc)) := kept_cell hk0 hq
    rw [← HW]
    have HK := Lib.hid hk0
    clear HW hk0 hq
    go_loopw [10, 11, 35] (fun er u i wr => (i = .int .i64 0 ∧ er = .nilIface ∧ u = _ ∧ wr = W) ∨ (i = .int .i64 1 ∧ er = .nilIface ∧ Calls Tryz.prog 41 #[u] wr (One R))) (fun _ _ i _ => 1 - (intOf i).toNat)
    case atStart => exact .inl ⟨rfl, rfl, rfl, rfl⟩
    case round =>
      rcases hrel with ⟨rfl, rfl, rfl, rfl⟩ | ⟨rfl, rfl, hD⟩
      · go_wp2_with fail
        refine (HU.out _ HK.out).mono ?_
        rintro e w1 ⟨u', err, rfl, rfl, hD⟩
        have HD := Lib.hid hD
        clear hD
        go_wp2
        go_roundw
        case rel => exact .inr ⟨rfl, rfl, HD.out⟩
        case measure => simp [intOf]
      · have HD := Lib.hid hD
        clear hD
        go_wp2_with fail
        refine HD.out.mono ?_
        rintro e w1 ⟨u', rfl, hR⟩
        have HR := Lib.hid hR
        clear hR
        go_wp2
        go_ret
        exact ⟨u', rfl, HR.out⟩
set_option maxHeartbeats 2000000 in
/-- One path: update refuses. -/
theorem delpaths_refused (T0 : TypeId) (hT : ∀ v W, (binOp .neq 32 (.iface T0 v) .nilIface).run Tryz.prog W = .ok (.bool true) W) (v : Value) (hv : v = .nilIface ∨ ∃ T x, v = .iface T x) (qb : Nat) (pa : Option Addr) (pl pc : Nat) (ma : Option Nat) (w : World) (hq : w.cell? ⟨qb, 0, none⟩ = some (.iface 25 (.slice pa pl pc)))
    (hU : ∀ W, Kept w W → Calls Tryz.prog 34 #[v, .slice pa pl pc, mk0, .map ma] W (Two (Err T0 W))) :
    Calls Tryz.prog 35 #[v, .iface 25 (.slice (some ⟨qb, 0, none⟩) 1 1), .map ma] w (One (DelErr w)) := by
  have HU := Lib.hid hU
  clear hU
  rcases hv with rfl | ⟨T, x, rfl⟩
  all_goals
    go_enter Tryz.func35, Tryz.ntmps35
    go_wp2
    obtain ⟨W, HW⟩ : ∃ W : World, W = w.alloc (.cells #[] 57) := ⟨_, rfl⟩
    have hk0 : Kept w W := by rw [HW]; exact kept_alloc _ _
    have hq0 : W.cell? ⟨qb, 0, none⟩ = some (.iface 25 (.slice pa pl pc)) := kept_cell hk0 hq
    rw [← HW]
    have HK := Lib.hid hk0
    clear HW hk0 hq
    go_loopw [10, 11, 35] (fun er u i wr => i = .int .i64 0 ∧ er = .nilIface ∧ u = _ ∧ wr = W) (fun _ _ _ _ => 0)
    case atStart => exact ⟨rfl, rfl, rfl, rfl⟩
    case round =>
      obtain ⟨rfl, rfl, rfl, rfl⟩ := hrel
      go_wp2_with fail
      refine (HU.out _ HK.out).mono ?_
      rintro e w1 ⟨u', err, rfl, rfl, hk, a, rfl⟩
      have HK1 := Lib.hid hk
      clear hk
      go_wp2_with fail
      go_ret
      exact ⟨_, rfl, .inr ⟨_, rfl⟩, (HK.out.trans HK1.out).trans (kept_alloc _ _)⟩
end Go.Proofs.YtlchcilkdenjeaaGreatDoor
