/- Calls of delpaths' entries with a nil and with a fresh allocator. -/
import Derived.Test.YtlchcilkdenjeaaGreatDoorZzb
namespace Go.Proofs.YtlchcilkdenjeaaGreatDoor
open Go.RowKit Go.Gq
set_option maxRecDepth 100000
section
variable (b0 n : Nat) (z : Nat → Int) (pa : Option Addr) (m pc : Nat) (Q : Nat → Nat) (idx : Nat → Int) (w : World) (hv : w.rowIs b0 20 n (fun t => ib (z t))) (hn : n ≤ 1048576) (hm : m ≤ 1048576)
    (hp : PathsIs w pa m idx Q) (hi : ∀ j, j < m → -9223372036854775808 ≤ idx j ∧ idx j ≤ 9223372036854775807)
include hv hn hm hp hi
theorem call_nil (ac : Nat) : Calls Tryz.prog 26 #[.iface 25 (.slice (some ⟨b0, 0, none⟩) n n), .slice (some ⟨w.heap.size, 0, none⟩) 2 ac]
    (w.alloc (.cells #[.iface 25 (.slice pa m pc), .iface 39 (.map none)] 20)) (DelOut w n (gm n z idx m)) := by
  have hk := kept_alloc w (.cells #[.iface 25 (.slice pa m pc), .iface 39 (.map none)] 20)
  have hrow : (w.alloc (.cells #[.iface 25 (.slice pa m pc), .iface 39 (.map none)] 20)).rowIs w.heap.size 20 2 _ := row_of (l := [_, _]) (heap_alloc_new w _)
  have s0 := hrow.cell (i := 0) (by omega)
  have s1 := hrow.cell (i := 1) (by omega)
  simp only [List.getD_cons_succ, List.getD_cons_zero] at s0 s1
  exact (ZZfuncDelpathsWithAllocator_any b0 n z pa m pc Q idx none _ (rowIs_kept hv hk) hn hm (hp.kept hk) hi (.inl ⟨rfl, rfl⟩) w.heap.size ac s0 s1).mono fun e w' h => h.out hk (fun x e => by cases e)
theorem call_fresh (ac : Nat) : Calls Tryz.prog 26 #[.iface 25 (.slice (some ⟨b0, 0, none⟩) n n), .slice (some ⟨w.heap.size + 1, 0, none⟩) 2 ac]
    ((w.alloc (.map #[] 0)).alloc (.cells #[.iface 25 (.slice pa m pc), .iface 39 (.map (some w.heap.size))] 20)) (DelOut w n (gm n z idx m)) := by
  obtain ⟨hk0, ha0, hx⟩ := empty_map w
  have hk1 := kept_alloc (w.alloc (.map #[] 0)) (.cells #[.iface 25 (.slice pa m pc), .iface 39 (.map (some w.heap.size))] 20)
  have hk := hk0.trans hk1
  have hrow : ((w.alloc (.map #[] 0)).alloc (.cells #[.iface 25 (.slice pa m pc), .iface 39 (.map (some w.heap.size))] 20)).rowIs (w.heap.size + 1) 20 2 (fun j => [Value.iface 25 (.slice pa m pc), .iface 39 (.map (some w.heap.size))].getD j undef) :=
    row_of (l := [_, _]) (by have := heap_alloc_new (w.alloc (.map #[] 0)) (.cells #[.iface 25 (.slice pa m pc), .iface 39 (.map (some w.heap.size))] 20); simpa using this)
  have s0 := hrow.cell (i := 0) (by omega)
  have s1 := hrow.cell (i := 1) (by omega)
  simp only [List.getD_cons_succ, List.getD_cons_zero] at s0 s1
  exact (ZZfuncDelpathsWithAllocator_any b0 n z pa m pc Q idx (some w.heap.size) _ (rowIs_kept hv hk) hn hm (hp.kept hk) hi (ha0.kept hk1) (w.heap.size + 1) ac s0 s1).mono fun e w' h => h.out hk hx
theorem call_del : Calls Tryz.prog 22 #[.iface 25 (.slice (some ⟨b0, 0, none⟩) n n), .iface 25 (.slice pa m pc), .map (some w.heap.size)] (w.alloc (.map #[] 0)) (DelOut w n (gm n z idx m)) := by
  obtain ⟨hk0, ha0, hx⟩ := empty_map w
  exact (ZZdelpaths_any b0 n z pa m pc Q idx (some w.heap.size) _ (rowIs_kept hv hk0) hn hm (hp.kept hk0) hi ha0).mono fun e w' h => h.out hk0 hx
end
end Go.Proofs.YtlchcilkdenjeaaGreatDoor
