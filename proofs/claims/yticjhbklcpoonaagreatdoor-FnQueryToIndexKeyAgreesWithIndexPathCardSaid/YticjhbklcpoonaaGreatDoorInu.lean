/- What comes in: slices of bytes, small unsigned numbers. -/
import Derived.Test.YticjhbklcpoonaaGreatDoorIn
namespace Go.Proofs.YticjhbklcpoonaaGreatDoor
open Go.ChangeShapes Go.WideShapes Go.ChangeAt Go.RowKit Go.Gq
theorem wf_u8 {z : Int} (h : (Lit.int .u8 z).wf = true) : 0 ≤ z ∧ z < 256 := by
  have e1 : IntKind.u8.min = 0 := by decide
  have e2 : IntKind.u8.max = 255 := by decide
  simp only [Lit.wf, Bool.and_eq_true, decide_eq_true_eq] at h
  rw [e1, e2] at h
  omega
theorem wf_u16 {z : Int} (h : (Lit.int .u16 z).wf = true) : 0 ≤ z ∧ z < 65536 := by
  have e1 : IntKind.u16.min = 0 := by decide
  have e2 : IntKind.u16.max = 65535 := by decide
  simp only [Lit.wf, Bool.and_eq_true, decide_eq_true_eq] at h
  rw [e1, e2] at h
  omega
/-- A slice of bytes that came in. -/
theorem reads_u8s {P : Program} {H : Type} {enc : TypeId × Value → H} {t e : TypeId} {base : Nat} {W : World} {a : Option Addr} {len cap : Nat} {d : DataW H} {p : List MemPlace} (ht : P.underlying t = some (.slice e)) (he : P.underlying e = some (.int .u8)) (hc : P.cellsOf e = 1)
    (h : DataW.Trod enc P W base (fun _ => true) true t (Value.slice a len cap) d p) : ∃ zs : List Int, Rd W a len (fun i => .int .u8 (zs.getD i 0)) ∧ zs.length = len ∧ len ≤ maxLen ∧ cap ≤ maxLen ∧ len ≤ cap ∧ (∀ i, i < len → 0 ≤ zs.getD i 0 ∧ zs.getD i 0 < 256) := by
  obtain ⟨fuel, hf⟩ := h
  rcases open_ints ht he hc hf with ⟨hcs, _⟩ | ⟨x, l, c, zs, hcs, _, hl, hm, hz, _, hcell, hwz⟩
  · simp [Value.cells] at hcs
    obtain ⟨rfl, rfl, rfl⟩ := hcs
    exact ⟨[], .inl rfl, rfl, Nat.zero_le _, Nat.zero_le _, Nat.le_refl _, fun i hi => absurd hi (Nat.not_lt_zero _)⟩
  · simp [Value.cells] at hcs
    obtain ⟨rfl, rfl, rfl⟩ := hcs
    simp at hz
    refine ⟨zs.take len, rd_of_row fun i hi => ?_, by simp; omega, by omega, by omega, hl, fun i hi => ?_⟩
    · rw [hcell i (by omega)]
      simp [List.getD_eq_getElem?_getD, hi]
    · rw [List.getD_eq_getElem?_getD, List.getElem?_take_of_lt hi, List.getElem?_eq_getElem (by omega)]
      exact wf_u8 (hwz _ (by simp))
end Go.Proofs.YticjhbklcpoonaaGreatDoor
