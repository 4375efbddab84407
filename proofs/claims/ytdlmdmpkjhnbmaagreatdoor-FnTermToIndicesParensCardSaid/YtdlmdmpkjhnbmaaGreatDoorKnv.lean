/- The converters of the laws; the shapes that the laws build. -/
import Derived.Test.YtdlmdmpkjhnbmaaGreatDoorDcm
namespace Go.Proofs.YtdlmdmpkjhnbmaaGreatDoor
open Go.RowKit Go.Gq
set_option maxRecDepth 100000
def TrueKept (w : World) (e : Ending) (w' : World) : Prop := e = .returned (.bool true) ∧ Kept w w'
abbrev Trip (k n : Int) (s : ByteArray) : Value := .tuple #[.int .i64 k, .int .i64 n, .string s]
theorem kind_int (v : Int) (w : World) : Calls Tryz.prog 41 #[nb v] w fun e w' => e = .returned (Trip 1 v ⟨#[]⟩) ∧ w = w' := by
  go_enter Tryz.func41, Tryz.ntmps41
  go_wp2
  exact bodyPost_ret (v := Trip 1 v ⟨#[]⟩) (by simp [results, Tryz.results41, go_sem]) rfl ⟨rfl, rfl⟩
theorem kind_nil (w : World) : Calls Tryz.prog 41 #[.nilIface] w fun e w' => e = .returned (Trip 0 0 ⟨#[]⟩) ∧ w = w' := by
  go_enter Tryz.func41, Tryz.ntmps41
  go_wp2
  exact bodyPost_ret (v := Trip 0 0 ⟨#[]⟩) (by simp [results, Tryz.results41, go_sem]) rfl ⟨rfl, rfl⟩
theorem kind_str (s : ByteArray) (w : World) : Calls Tryz.prog 41 #[.iface 9 (.string s)] w fun e w' => e = .returned (Trip 2 0 s) ∧ w = w' := by
  go_enter Tryz.func41, Tryz.ntmps41
  go_wp2
  exact bodyPost_ret (v := Trip 2 0 s) (by simp [results, Tryz.results41, go_sem]) rfl ⟨rfl, rfl⟩
theorem ZK_of (p : Addr) (x : Value) (k n : Int) (s : ByteArray) (w : World) (h : Calls Tryz.prog 42 #[.pointer (some p)] w fun e w' => e = .returned x ∧ Kept w w') (hx : ∀ w', Calls Tryz.prog 41 #[x] w' fun e w'' => e = .returned (Trip k n s) ∧ w' = w'') :
    Calls Tryz.prog 22 #[.pointer (some p)] w fun e w' => e = .returned (Trip k n s) ∧ Kept w w' := by
  go_enter Tryz.func22, Tryz.ntmps22
  go_wp2_with fail
  refine h.mono ?_
  rintro e w1 ⟨rfl, hk⟩
  have K := Lib.hid hk
  clear hk h
  go_wp2_with fail
  refine (hx w1).mono ?_
  rintro e w2 ⟨rfl, rfl⟩
  clear hx
  go_wp2
  exact bodyPost_ret (v := Trip k n s) (by simp [results, Tryz.results22, go_sem]) rfl ⟨rfl, K.out⟩
theorem ZN_of (p : Addr) (x : Value) (k n : Int) (s : ByteArray) (w : World) (h : Calls Tryz.prog 43 #[.pointer (some p)] w fun e w' => e = .returned x ∧ Kept w w') (hx : ∀ w', Calls Tryz.prog 41 #[x] w' fun e w'' => e = .returned (Trip k n s) ∧ w' = w'') :
    Calls Tryz.prog 24 #[.pointer (some p)] w fun e w' => e = .returned (Trip k n s) ∧ Kept w w' := by
  go_enter Tryz.func24, Tryz.ntmps24
  go_wp2_with fail
  refine h.mono ?_
  rintro e w1 ⟨rfl, hk⟩
  have K := Lib.hid hk
  clear hk h
  go_wp2_with fail
  refine (hx w1).mono ?_
  rintro e w2 ⟨rfl, rfl⟩
  clear hx
  go_wp2
  exact bodyPost_ret (v := Trip k n s) (by simp [results, Tryz.results24, go_sem]) rfl ⟨rfl, K.out⟩
abbrev np : Value := .pointer none
abbrev ns : Value := .slice none 0 0
abbrev bs (q : Nat) : Value := .pointer (some ⟨q, 0, none⟩)
/-- A Term's cells. -/
abbrev termC (ty : Int) (ix : Value) (num : ByteArray) (un st q sl : Value) : Array Value := #[.int .i64 ty, ix, np, np, np, .string num, un, .string ⟨#[]⟩, st, np, np, np, np, np, .string ⟨#[]⟩, q, sl]
theorem cell_new (w : World) (cs : Array Value) (t : TypeId) (k : Nat) (v : Value) (h : cs[k]? = some v) : (w.alloc (.cells cs t)).cell? ⟨w.heap.size, k, none⟩ = some v := by
  have hb : (w.alloc (.cells cs t)).heap[w.heap.size]? = some (.cells cs t) := heap_alloc_new w _
  simp only [World.cell?, hb]
  simpa using h
theorem cell_old (w : World) (o : Obj) {a : Addr} {v : Value} (h : w.cell? a = some v) : (w.alloc o).cell? a = some v := kept_cell (kept_alloc w o) h
theorem two_new (w : World) (c1 c2 : Array Value) (t1 t2 : TypeId) (W : World) (hW : W = (w.alloc (.cells c1 t1)).alloc (.cells c2 t2)) :
    (∀ k v, c1[k]? = some v → W.cell? ⟨w.heap.size, k, none⟩ = some v) ∧ (∀ k v, c2[k]? = some v → W.cell? ⟨w.heap.size + 1, k, none⟩ = some v) ∧ Kept w W := by
  have hs : (w.alloc (.cells c1 t1)).heap.size = w.heap.size + 1 := by simp
  subst hW
  refine ⟨fun k v h => cell_old _ _ (cell_new _ _ _ k _ h), fun k v h => ?_, (kept_alloc _ _).trans (kept_alloc _ _)⟩
  rw [← hs]; exact cell_new _ _ _ k _ h
theorem three_new (w : World) (c1 c2 c3 : Array Value) (t1 t2 t3 : TypeId) (W : World) (hW : W = ((w.alloc (.cells c1 t1)).alloc (.cells c2 t2)).alloc (.cells c3 t3)) :
    (∀ k v, c1[k]? = some v → W.cell? ⟨w.heap.size, k, none⟩ = some v) ∧ (∀ k v, c2[k]? = some v → W.cell? ⟨w.heap.size + 1, k, none⟩ = some v) ∧ (∀ k v, c3[k]? = some v → W.cell? ⟨w.heap.size + 1 + 1, k, none⟩ = some v) ∧ Kept w W := by
  have hs : ((w.alloc (.cells c1 t1)).alloc (.cells c2 t2)).heap.size = w.heap.size + 1 + 1 := by simp
  obtain ⟨h1, h2, h3⟩ := two_new w c1 c2 t1 t2 _ rfl
  subst hW
  refine ⟨fun k v h => cell_old _ _ (h1 k v h), fun k v h => cell_old _ _ (h2 k v h), fun k v h => ?_, h3.trans (kept_alloc _ _)⟩
  rw [← hs]; exact cell_new _ _ _ k _ h
/-- A signed term. -/
theorem un_new (w : World) (op : Int) (t : Nat) (num : ByteArray) (p : Nat) (hp : w.heap.size = p) (W : World) (hW : W = (w.alloc (.cells #[.int .i64 op, bs t] 63)).alloc (.cells (termC 11 np num (bs p) np np ns) 58)) :
    W.cell? ⟨p + 1, 0, none⟩ = some (.int .i64 11) ∧ W.cell? ⟨p + 1, 6, none⟩ = some (bs p) ∧ W.cell? ⟨p, 0, none⟩ = some (.int .i64 op) ∧ W.cell? ⟨p, 1, none⟩ = some (bs t) ∧ Kept w W := by
  subst hp
  have hs : (w.alloc (.cells #[.int .i64 op, bs t] 63)).heap.size = w.heap.size + 1 := by simp
  subst hW
  refine ⟨?_, ?_, cell_old _ _ (cell_new _ _ _ 0 _ rfl), cell_old _ _ (cell_new _ _ _ 1 _ rfl), (kept_alloc _ _).trans (kept_alloc _ _)⟩
  · rw [← hs]; exact cell_new _ _ _ 0 _ rfl
  · rw [← hs]; exact cell_new _ _ _ 6 _ rfl
/-- A string term. -/
theorem str_new (w : World) (str num : ByteArray) (sl : Value) (p : Nat) (hp : w.heap.size = p) (W : World) (hW : W = (w.alloc (.cells #[.string str, sl] 67)).alloc (.cells (termC 13 np num np (bs p) np ns) 58)) :
    W.cell? ⟨p + 1, 0, none⟩ = some (.int .i64 13) ∧ W.cell? ⟨p + 1, 8, none⟩ = some (bs p) ∧ W.cell? ⟨p, 0, none⟩ = some (.string str) ∧ W.cell? ⟨p, 1, none⟩ = some sl ∧ Kept w W := by
  subst hp
  have hs : (w.alloc (.cells #[.string str, sl] 67)).heap.size = w.heap.size + 1 := by simp
  subst hW
  refine ⟨?_, ?_, cell_old _ _ (cell_new _ _ _ 0 _ rfl), cell_old _ _ (cell_new _ _ _ 1 _ rfl), (kept_alloc _ _).trans (kept_alloc _ _)⟩
  · rw [← hs]; exact cell_new _ _ _ 0 _ rfl
  · rw [← hs]; exact cell_new _ _ _ 8 _ rfl
end Go.Proofs.YtdlmdmpkjhnbmaaGreatDoor
