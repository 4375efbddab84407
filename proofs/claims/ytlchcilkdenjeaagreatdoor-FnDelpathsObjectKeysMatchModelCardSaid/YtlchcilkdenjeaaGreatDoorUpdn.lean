/- Contracts for the case tables: zzIsErr, zzEmptyPathGivesN, the marker at null, delpaths at null. -/
import Derived.Test.YtlchcilkdenjeaaGreatDoorUpdm
namespace Go.Proofs.YtlchcilkdenjeaaGreatDoor
open Go.RowKit Go.Gq
attribute [local go_sem] Lib.run_eql_slice_nil
set_option maxRecDepth 100000
theorem cell1 (v : World) (x : Value) (T : TypeId) (n : Nat) (h : v.heap.size = n) : (v.alloc (.cells #[x] T)).cell? ⟨n, 0, none⟩ = some x := by subst h; simp
theorem cell_up {v : World} {o : Obj} {a : Addr} {x : Value} (h : v.cell? a = some x) : (v.alloc o).cell? a = some x := kept_cell (kept_alloc v o) h
theorem zzIsErr_true (u : Value) (w : World) (h : IsE u) :
    Calls Tryz.prog 29 #[u] w fun e w' => e = .returned (.bool true) ∧ w = w' := by
  rcases h with ⟨x, rfl⟩ | ⟨x, rfl⟩
  all_goals
    go_enter Tryz.func29, Tryz.ntmps29
    go_wp2
    go_ret
    exact ⟨rfl, rfl⟩
theorem zzEmptyPathGivesN_true (v : Value) (n : Int) (w : World) :
    Calls Tryz.prog 24 #[v, .int .i64 n] w fun e w' => e = .returned (.bool true) ∧ Kept w w' := by
  have q1 : (n == n) = true := by simp
  go_enter Tryz.func24, Tryz.ntmps24
  go_wp2_with fail
  refine (ZZupdate_run (Q := fun u er w' => u = ib n ∧ er = .nilIface ∧ w.alloc (.cells #[] 20) = w') _ _ _ _ _ _ _ ((update_empty _ _ _ _ _ _).mono fun e w' ⟨h1, h2⟩ => ⟨_, _, h1, rfl, rfl, h2⟩)).mono ?_
  rintro e w' ⟨u, er, rfl, rfl, rfl, rfl⟩
  go_wp2
  go_ret
  exact ⟨rfl, kept_alloc _ _⟩
theorem deleteEmpty_mk (w : World) : Calls Tryz.prog 41 #[mk0] w fun e w' => e = .returned .nilIface ∧ Kept w w' := by
  go_enter Tryz.func41, Tryz.ntmps41
  go_wp2
  go_ret
  exact ⟨rfl, kept_alloc _ _⟩
/-- The marker at a key of null: nothing. -/
theorem updateObject_nilmark (k : ByteArray) (pa : Option Addr) (pc : Nat) (ma : Option Nat) (w : World) :
    Calls Tryz.prog 37 #[.map none, .string k, .slice pa 0 pc, mk0, .map ma] w fun e w' => e = .returned (.tuple #[.nilIface, .nilIface]) ∧ w' = w := by
  have hlk := obj_lookup w (m := none) (l := []) (.inl ⟨rfl, rfl⟩) k
  have hnil : ∀ W : World, (binOp .eql 41 (.map none) (.map none)).run Tryz.prog W = .ok (.bool true) W := fun W => eql_map_nil W _ _ _ none Tryz.underlying41
  simp only [lkp] at hlk
  go_enter Tryz.func37, Tryz.ntmps37
  go_wp2_with fail
  go_ret2
  exact ⟨rfl, rfl⟩
/-- null, with nothing of the old memory turned. -/
def NilKept (w : World) (u : Value) (w' : World) : Prop := u = .nilIface ∧ Kept w w'
/-- delpaths at null, one path of one key. -/
theorem delpaths_nil_key (k : ByteArray) (pb qb : Nat) (ma : Option Nat) (w : World) (hq : w.cell? ⟨qb, 0, none⟩ = some (.iface 25 (.slice (some ⟨pb, 0, none⟩) 1 1))) (hp : w.cell? ⟨pb, 0, none⟩ = some (.iface 9 (.string k))) :
    Calls Tryz.prog 35 #[.nilIface, .iface 25 (.slice (some ⟨qb, 0, none⟩) 1 1), .map ma] w (One (NilKept w)) :=
  delpaths_one _ (.inl rfl) qb (some ⟨pb, 0, none⟩) 1 1 ma w hq fun W hk => update_key_nil pb mk0 ma W k (kept_cell hk hp) ((updateObject_nilmark k _ _ ma W).mono fun e w' ⟨h1, h2⟩ => ⟨_, _, h1, rfl, by
    subst h2
    exact (deleteEmpty_nil _).mono fun e w'' ⟨h3, h4⟩ => ⟨_, h3, rfl, by subst h4; exact hk⟩⟩)
/-- delpaths at null, one path of one index. -/
theorem delpaths_nil_idx (i : Int) (pb qb : Nat) (ma : Option Nat) (w : World) (hi0 : -9223372036854775808 ≤ i) (hi1 : i ≤ 9223372036854775807) (hq : w.cell? ⟨qb, 0, none⟩ = some (.iface 25 (.slice (some ⟨pb, 0, none⟩) 1 1))) (hp : w.cell? ⟨pb, 0, none⟩ = some (ib i)) :
    Calls Tryz.prog 35 #[.nilIface, .iface 25 (.slice (some ⟨qb, 0, none⟩) 1 1), .map ma] w (One (NilKept w)) :=
  delpaths_one _ (.inl rfl) qb (some ⟨pb, 0, none⟩) 1 1 ma w hq fun W hk => update_idx_nil pb mk0 ma W i (kept_cell hk hp) ((updateArrayIndex_out_nil i _ _ ma W hi0 hi1).mono fun e w' ⟨h1, h2⟩ => ⟨_, _, h1, rfl, by
    subst h2
    exact (deleteEmpty_nil _).mono fun e w'' ⟨h3, h4⟩ => ⟨_, h3, rfl, by subst h4; exact hk⟩⟩)
/-- delpaths, one empty path: null. -/
theorem delpaths_whole (v : Value) (hv : v = .nilIface ∨ ∃ T x, v = .iface T x) (pa : Option Addr) (pc qb : Nat) (ma : Option Nat) (w : World) (hq : w.cell? ⟨qb, 0, none⟩ = some (.iface 25 (.slice pa 0 pc))) :
    Calls Tryz.prog 35 #[v, .iface 25 (.slice (some ⟨qb, 0, none⟩) 1 1), .map ma] w (One (NilKept w)) :=
  delpaths_one v hv qb pa 0 pc ma w hq fun W hk => (update_empty v mk0 pa pc ma W).mono fun e w' ⟨h1, h2⟩ => ⟨_, _, h1, rfl, by
    subst h2
    exact (deleteEmpty_mk _).mono fun e w'' ⟨h3, h4⟩ => ⟨_, h3, rfl, hk.trans h4⟩⟩
theorem ea_not_nil (v : Value) (W : World) : (binOp .neq 32 (.iface 66 v) .nilIface).run Tryz.prog W = .ok (.bool true) W := by kernel_rfl
theorem eo_not_nil (v : Value) (W : World) : (binOp .neq 32 (.iface 58 v) .nilIface).run Tryz.prog W = .ok (.bool true) W := by kernel_rfl
end Go.Proofs.YtlchcilkdenjeaaGreatDoor
