/- What comes in, as a walk is told of it: slices of ints and of strings, the bounds of an int. -/
import Derived.Test.YticjhbklcpoonaaGreatDoorSlices
import Derived.ProofKit
import Derived.ShutString
import Derived.SliceStrings
import Derived.ChangeSlices
namespace Go.Proofs.YticjhbklcpoonaaGreatDoor
open Go.ChangeShapes Go.WideShapes Go.ChangeAt Go.RowKit Go.Gq
theorem wf_lo {z : Int} (h : (Lit.int .i64 z).wf = true) : -9223372036854775808 ≤ z := by
  have e : IntKind.i64.min = -9223372036854775808 := by decide
  simp only [Lit.wf, Bool.and_eq_true, decide_eq_true_eq] at h
  rw [← e]; exact h.1
theorem wf_hi {z : Int} (h : (Lit.int .i64 z).wf = true) : z ≤ 9223372036854775807 := by
  have e : IntKind.i64.max = 9223372036854775807 := by decide
  simp only [Lit.wf, Bool.and_eq_true, decide_eq_true_eq] at h
  rw [← e]; exact h.2
theorem le_max {n : Nat} (h : n ≤ maxLen) : n ≤ 9223372036854775807 := h
theorem rd_of_row {W : World} {x : Addr} {len : Nat} {f : Nat → Value} (h : ∀ i, i < len → W.cell? (x.add i) = some (f i)) : Rd W (some x) len f := by
  rcases Nat.eq_zero_or_pos len with h0 | h0
  · exact .inl h0
  · right
    obtain ⟨b, off, spot⟩ := x
    have hc0 := h 0 (by omega)
    have hspot : spot = none := by simpa [Addr.add] using World.cell?_spot hc0
    subst hspot
    refine ⟨b, off, rfl, fun i hi => ?_⟩
    have := h i (by omega)
    have e : ({ block := b, off := off, spot := none } : Addr).add i = ⟨b, off + i, none⟩ := by
      unfold Addr.add; split
      · rename_i h; subst h; rfl
      · rfl
    rw [e] at this
    exact this
/-- A slice of ints that came in. -/
theorem reads_ints {P : Program} {H : Type} {enc : TypeId × Value → H} {t e : TypeId} {base : Nat} {W : World} {a : Option Addr} {len cap : Nat} {d : DataW H} {p : List MemPlace} (ht : P.underlying t = some (.slice e)) (he : P.underlying e = some (.int .i64)) (hc : P.cellsOf e = 1)
    (h : DataW.Trod enc P W base (fun _ => true) true t (Value.slice a len cap) d p) : ∃ zs : List Int, Rd W a len (vi zs) ∧ zs.length = len ∧ len ≤ maxLen ∧ cap ≤ maxLen ∧ len ≤ cap ∧ (∀ n ∈ zs, (Lit.int .i64 n).wf = true) := by
  obtain ⟨fuel, hf⟩ := h
  rcases open_ints ht he hc hf with ⟨hcs, _⟩ | ⟨x, l, c, zs, hcs, _, hl, hm, hz, _, hcell, hwz⟩
  · simp [Value.cells] at hcs
    obtain ⟨rfl, rfl, rfl⟩ := hcs
    exact ⟨[], .inl rfl, rfl, Nat.zero_le _, Nat.zero_le _, Nat.le_refl _, fun n hn => by cases hn⟩
  · simp [Value.cells] at hcs
    obtain ⟨rfl, rfl, rfl⟩ := hcs
    simp at hz
    refine ⟨zs.take len, rd_of_row fun i hi => ?_, by simp; omega, by omega, by omega, hl, fun n hn => hwz n (List.mem_of_mem_take hn)⟩
    rw [hcell i (by omega)]
    simp [vi, List.getD_eq_getElem?_getD, hi]
/-- The bounds of what a slice of ints holds. -/
theorem getD_wf {zs : List Int} {len : Nat} (h : ∀ n ∈ zs, (Lit.int .i64 n).wf = true) (hl : zs.length = len) (j : Nat) (hj : j < len) : -9223372036854775808 ≤ zs.getD j 0 ∧ zs.getD j 0 ≤ 9223372036854775807 := by
  have : (Lit.int .i64 (zs.getD j 0)).wf = true := by
    rw [List.getD_eq_getElem?_getD, List.getElem?_eq_getElem (by omega)]
    exact h _ (by simp)
  exact ⟨wf_lo this, wf_hi this⟩
/-- A slice of strings that came in. -/
theorem reads_strs {P : Program} {H : Type} {enc : TypeId × Value → H} {t e : TypeId} {base : Nat} {W : World} {a : Option Addr} {len cap : Nat} {d : DataW H} {p : List MemPlace} (ht : P.underlying t = some (.slice e)) (he : P.underlying e = some .string) (hc : P.cellsOf e = 1)
    (h : DataW.Trod enc P W base (fun _ => true) true t (Value.slice a len cap) d p) : ∃ ss : List ByteArray, Rd W a len (vs ss) ∧ ss.length = len ∧ len ≤ maxLen ∧ cap ≤ maxLen ∧ len ≤ cap ∧ (∀ i, i < len → (ss.getD i ByteArray.empty).size ≤ maxLen) := by
  obtain ⟨fuel, hf⟩ := h
  rcases open_strings ht he hc hf with ⟨hcs, _⟩ | ⟨x, l, c, zs, hcs, _, hl, hm, hz, _, hcell, hwz⟩
  · simp [Value.cells] at hcs
    obtain ⟨rfl, rfl, rfl⟩ := hcs
    exact ⟨[], .inl rfl, rfl, Nat.zero_le _, Nat.zero_le _, Nat.le_refl _, fun n hn => absurd hn (Nat.not_lt_zero _)⟩
  · simp [Value.cells] at hcs
    obtain ⟨rfl, rfl, rfl⟩ := hcs
    simp at hz
    have hg : ∀ i, i < len → (zs.take len).getD i ByteArray.empty = zs.getD i ByteArray.empty := fun i hi => by simp [List.getD_eq_getElem?_getD, hi]
    refine ⟨zs.take len, rd_of_row fun i hi => ?_, by simp; omega, by omega, by omega, hl, fun i hi => ?_⟩
    · rw [hcell i (by omega)]
      simp [vs, List.getD_eq_getElem?_getD, hi]
    · rw [hg i hi, List.getD_eq_getElem?_getD, List.getElem?_eq_getElem (by omega)]
      exact hwz _ (by simp)
end Go.Proofs.YticjhbklcpoonaaGreatDoor
