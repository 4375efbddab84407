/- A row of strings behind the library's sort: what it holds, what stays. -/
import Derived.Test.YtdlmdmpkjhnbmaaGreatDoorSlices
import Derived.Sort.OwnSorted
namespace Go.Gq
open Go.RowKit Go.Sort Go.Proofs
/-- The strings of a row, each as the list of its bytes. -/
def srcOf (n : Nat) (f : Nat → ByteArray) : List (List UInt8) := (List.range n).map fun t => (f t).data.toList
theorem srcOf_length (n : Nat) (f : Nat → ByteArray) : (srcOf n f).length = n := by simp [srcOf]
theorem holds_row {w : World} {b n : Nat} {T : TypeId} {f : Nat → ByteArray} (h : w.rowIs b T n (fun t => .string (f t))) : Holds encStr w b 0 (srcOf n f).toArray := by
  intro j hj
  have hj' : j < n := by simpa [srcOf] using hj
  refine ⟨?_, by simpa using h.frozen (0 + j)⟩
  rw [Nat.zero_add, h.cell hj']
  simp [srcOf, hj']
/-- The string at place i of a list of strings. -/
def atS (ts : List (List UInt8)) (i : Nat) : ByteArray := ⟨(ts.getD i []).toArray⟩
theorem sorted_row {w : World} {b n : Nat} {T : TypeId} {f : Nat → ByteArray} {g : Nat} {os : Array Obj} (h : w.rowIs b T n (fun t => .string (f t))) (ts : List (List UInt8)) (hl : ts.length = n) :
    Rd (grow (putRow encStr (Sort.ahead w g) b 0 ts.toArray) os) (some ⟨b, 0, none⟩) n (fun i => .string (atS ts i)) := by
  have hh : Holds encStr (Sort.ahead w g) b 0 (srcOf n f).toArray := holds_ahead _ _ _ _ _ _ (holds_row h)
  refine .inr ⟨b, 0, rfl, fun i hi => ?_⟩
  have hb : b < (putRow encStr (Sort.ahead w g) b 0 ts.toArray).heap.size := by simpa using h.lt
  rw [cell?_grow _ _ _ hb, cell?_putRow encStr _ b 0 _ _ hh (by simp [srcOf, hl]) i (by simp [hl]; exact hi)]
  simp [atS, List.getD_eq_getElem?_getD, hl, hi]
theorem sorted_below {B : Nat} {w0 w : World} {b g : Nat} {os : Array Obj} (d : Array (List UInt8)) (hk : Below B w0 w) (hB : B ≤ w0.heap.size) (hb : B ≤ b) : Below B w0 (grow (putRow encStr (Sort.ahead w g) b 0 d) os) := by
  obtain ⟨h1, h2, h3, h4, h5⟩ := grownBy_sorted (w := w) (g := b) (n := g) (os := os) d
  refine ⟨h1.trans hk.os, h2.trans hk.tape, h3.trans hk.output, Nat.le_trans hk.size h4, fun i hi => ?_⟩
  have := hk.size
  rw [h5 i (by omega) (fun e => by injection e with e; omega), hk.block i hi]
theorem atS_mem {ts : List (List UInt8)} {i : Nat} (hi : i < ts.length) : (atS ts i).data.toList ∈ ts := by
  simp [atS, List.getD_eq_getElem?_getD, hi]
theorem mem_atS {ts : List (List UInt8)} {x : ByteArray} (h : x.data.toList ∈ ts) : ∃ i, i < ts.length ∧ atS ts i = x := by
  obtain ⟨i, hi, e⟩ := List.getElem_of_mem h
  refine ⟨i, hi, ?_⟩
  simp [atS, List.getD_eq_getElem?_getD, hi, e]
theorem data_inj {x y : ByteArray} (h : x.data.toList = y.data.toList) : x = y := by
  cases x; cases y
  simp at h
  rw [h]
/-- The sort of strings keeps what is there. -/
theorem sort_src {n : Nat} {f : Nat → ByteArray} (le : List UInt8 → List UInt8 → Bool) : ((srcOf n f).mergeSort le).length = n ∧
    (∀ i, i < n → ∃ t, t < n ∧ atS ((srcOf n f).mergeSort le) i = f t) ∧ (∀ t, t < n → ∃ i, i < n ∧ atS ((srcOf n f).mergeSort le) i = f t) := by
  have hp := List.mergeSort_perm (srcOf n f) le
  have hl : ((srcOf n f).mergeSort le).length = n := by rw [hp.length_eq, srcOf_length]
  refine ⟨hl, fun i hi => ?_, fun t ht => ?_⟩
  · have := hp.mem_iff.1 (atS_mem (ts := (srcOf n f).mergeSort le) (i := i) (by omega))
    obtain ⟨t, ht, e⟩ := List.mem_map.1 this
    exact ⟨t, by simpa using ht, data_inj e.symm⟩
  · have : (f t).data.toList ∈ (srcOf n f).mergeSort le := hp.mem_iff.2 (List.mem_map.2 ⟨t, by simpa using ht, rfl⟩)
    obtain ⟨i, hi, e⟩ := mem_atS this
    exact ⟨i, by omega, e⟩
end Go.Gq
