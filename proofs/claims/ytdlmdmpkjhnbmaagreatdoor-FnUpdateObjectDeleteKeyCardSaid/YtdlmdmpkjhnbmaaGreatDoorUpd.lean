/- The contracts of the functions that update calls: toInt at an int, clampIndex, (allocator).allocated at no or one entry. -/
import Derived.Test.YtdlmdmpkjhnbmaaGreatDoorFacts
namespace Go.Proofs.YtdlmdmpkjhnbmaaGreatDoor
open Go.RowKit Go.Gq
set_option maxRecDepth 100000
/-- toInt at an int. -/
theorem toInt_int (n : Int) (w : World) :
    Calls Tryz.prog 50 #[.iface 3 (.int .i64 n)] w fun e w' => e = .returned (.tuple #[.int .i64 n, .bool true]) ∧ w = w' := by
  go_enter Tryz.func50, Tryz.ntmps50
  go_wp2
  go_ret2
  exact ⟨rfl, rfl⟩
/-- What clampIndex comes to. -/
def clampZ (i mn mx : Int) : Int := if (if i < 0 then i + mx else i) < mn then mn else if (if i < 0 then i + mx else i) < mx then (if i < 0 then i + mx else i) else mx
theorem clamp_any (i mn mx : Int) (w : World) (h0 : -9223372036854775808 ≤ i) (h1 : 0 ≤ mx) (h2 : mx ≤ 4611686018427387904) :
    Calls Tryz.prog 51 #[.int .i64 i, .int .i64 mn, .int .i64 mx] w fun e w' => e = .returned (.int .i64 (clampZ i mn mx)) ∧ w = w' := by
  unfold clampZ
  by_cases hi : i < 0
  · rw [if_pos hi]
    by_cases c1 : i + mx < mn
    · rw [if_pos c1]
      go_enter Tryz.func51, Tryz.ntmps51
      go_wp2
      go_ret
      exact ⟨rfl, rfl⟩
    · rw [if_neg c1]
      by_cases c2 : i + mx < mx
      · rw [if_pos c2]
        go_enter Tryz.func51, Tryz.ntmps51
        go_wp2
        go_ret
        exact ⟨rfl, rfl⟩
      · omega
  · rw [if_neg hi]
    by_cases c1 : i < mn
    · rw [if_pos c1]
      go_enter Tryz.func51, Tryz.ntmps51
      go_wp2
      go_ret
      exact ⟨rfl, rfl⟩
    · rw [if_neg c1]
      by_cases c2 : i < mx
      · rw [if_pos c2]
        go_enter Tryz.func51, Tryz.ntmps51
        go_wp2
        go_ret
        exact ⟨rfl, rfl⟩
      · rw [if_neg c2]
        go_enter Tryz.func51, Tryz.ntmps51
        go_wp2
        go_ret
        exact ⟨rfl, rfl⟩
/-- An allocator: nil, or a map that has these entries. -/
def AllocIs (w : World) (m : Option Nat) (l : List (Int × Value)) : Prop := (m = none ∧ l = []) ∨ ∃ b, m = some b ∧ w.MapIs intKey b l
theorem AllocIs.kept {w w' : World} {m : Option Nat} {l : List (Int × Value)} (h : AllocIs w m l) (k : Kept w w') : AllocIs w' m l := by
  rcases h with ⟨h1, h2⟩ | ⟨b, h1, h2⟩
  · exact .inl ⟨h1, h2⟩
  · exact .inr ⟨b, h1, mapIs_of_block intKey h2 (k.block b (mapIs_lt intKey h2))⟩
theorem AllocIs.keep {S : Nat → Prop} {w w' : World} {m : Option Nat} {l : List (Int × Value)} (h : AllocIs w m l) (k : Keep S w w') (hs : ∀ b, m = some b → ¬ S b) : AllocIs w' m l := by
  rcases h with ⟨h1, h2⟩ | ⟨b, h1, h2⟩
  · exact .inl ⟨h1, h2⟩
  · exact .inr ⟨b, h1, mapIs_of_block intKey h2 (k.block b (mapIs_lt intKey h2) (hs b h1))⟩
theorem rd_keepAlloc {w w' : World} {a : Option Addr} {n : Nat} {f : Nat → Value} {m : Option Nat} {l : List (Int × Value)} (h : Rd w a n f) (k : Keep (fun i => m = some i) w w') (ha : AllocIs w m l) : Rd w' a n f := by
  rcases h with h | ⟨b, off, rfl, h⟩
  · exact .inl h
  · refine .inr ⟨b, off, rfl, fun i hi => ?_⟩
    have hc := h i hi
    have hne : ¬ m = some b := fun e => by
      rcases ha with ⟨h1, _⟩ | ⟨c, h1, h2⟩
      · rw [h1] at e; cases e
      · rw [h1] at e; cases e; exact cell_not_map hc h2 rfl
    exact (World.cell?_of_block (w := w) (w' := w') (a := ⟨b, off + i, none⟩) (k.block b (cell_lt hc) hne)).trans hc
theorem rowIs_keepAlloc {w w' : World} {b : Nat} {T : TypeId} {n : Nat} {f : Nat → Value} {m : Option Nat} {l : List (Int × Value)} (h : w.rowIs b T n f) (k : Keep (fun i => m = some i) w w') (ha : AllocIs w m l) : w'.rowIs b T n f :=
  rowIs_keep h k fun e => by
    rcases ha with ⟨h1, _⟩ | ⟨c, h1, h2⟩
    · rw [h1] at e; cases e
    · rw [h1] at e; cases e; exact row_not_map h h2 rfl
theorem AllocIs.lt {w : World} {m : Option Nat} {l : List (Int × Value)} (ha : AllocIs w m l) {b : Nat} (e : m = some b) : b < w.heap.size := by
  rcases ha with ⟨h1, _⟩ | ⟨c, h1, h2⟩
  · rw [h1] at e; cases e
  · rw [h1] at e; cases e; exact mapIs_lt intKey h2
/-- allocated: an allocator with no entry. -/
theorem allocated_none (m : Option Nat) (v : Value) (w : World) (h : AllocIs w m []) :
    Calls Tryz.prog 46 #[.map m, v] w fun e w' => e = .returned (.bool false) ∧ Kept w w' := by
  rcases h with ⟨rfl, _⟩ | ⟨b, rfl, hm⟩
  · have hr := run_range_nilMap (P := Tryz.prog) w 108 3 20 Tryz.underlying108
    have hn := fun ty => run_next_nilMap (P := Tryz.prog) w ty 0 0 #[]
    go_enter Tryz.func46, Tryz.ntmps46
    go_wp2
    obtain ⟨W, HW⟩ : ∃ W : World, W = w.alloc (.mapIter none 0 #[] 0) := ⟨_, rfl⟩
    have hk : Kept w W := by rw [HW]; exact kept_alloc _ _
    rw [← HW] at hn ⊢
    clear HW hr
    go_loopw [6] (fun _ wr => wr = W) (fun _ _ => 0)
    case atStart => rfl
    case round =>
      subst hrel
      go_wp2
      go_ret
      exact ⟨rfl, hk⟩
  · obtain ⟨o, hr, hit⟩ := run_range_assoc intKey (P := Tryz.prog) Tryz.underlying108 w hm
    have hn : ∀ ty, (Instr.next (.pointer (some ⟨w.heap.size, 0, none⟩)) false ty).run Tryz.prog (w.alloc o) = .ok (.tuple #[.bool false]) (w.alloc o) := fun ty => by
      rcases run_next_assoc intKey (P := Tryz.prog) (w.alloc o) hit with ⟨_, h⟩ | ⟨k, v, w', _, h, _⟩
      · exact h ty
      · cases h
    go_enter Tryz.func46, Tryz.ntmps46
    go_wp2
    obtain ⟨W, HW⟩ : ∃ W : World, W = w.alloc o := ⟨_, rfl⟩
    have hk : Kept w W := by rw [HW]; exact kept_alloc _ _
    rw [← HW] at hn ⊢
    clear HW hr hit
    go_loopw [6] (fun _ wr => wr = W) (fun _ _ => 0)
    case atStart => rfl
    case round =>
      subst hrel
      go_wp2
      go_ret
      exact ⟨rfl, hk⟩
end Go.Proofs.YtdlmdmpkjhnbmaaGreatDoor
