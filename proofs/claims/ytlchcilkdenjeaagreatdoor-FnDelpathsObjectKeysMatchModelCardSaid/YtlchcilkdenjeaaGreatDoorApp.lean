/- An append of one cell where there is room, over rows. -/
import Derived.Test.YtlchcilkdenjeaaGreatDoorMark
import Derived.Lib.FrozenHead2
namespace Go.Proofs.YtlchcilkdenjeaaGreatDoor
open Go.RowKit Go.Gq
set_option maxRecDepth 100000
theorem run_append_one {P : Program} (w : World) (t ty T : TypeId) {i : TypeInfo} (ht : P.underlying t = some (.slice T)) (hi : P.info? T = some i) (hs : i.size = 1) (g j n : Nat) (f : Nat → Value) (hrow : w.rowIs g T n f) (hj : j < n) (q c : Nat) (v : Value)
    (hc : w.cell? ⟨q, 0, none⟩ = some v) (h1 : v.oneCell' = true) :
    ∃ w', (Builtin.append_ #[t, t] ty #[.slice (some ⟨g, 0, none⟩) j n, .slice (some ⟨q, 0, none⟩) 1 c]).run P w = .ok (.slice (some ⟨g, 0, none⟩) (j + 1) n) w' ∧ w'.rowIs g T n (fun s => if s = j then v else f s) ∧ Keep (fun x => x = g) w w' := by
  obtain ⟨cs, h2, h3, h4⟩ := hrow
  have hr := run_append_roomF (P := P) w t ty T i ht hi g j n cs (0, 0) h2 (by simp) ⟨q, 0, none⟩ 1 c [v] (by simp [hs]) (fun s u hu => by
    have : s = 0 := by
      rcases Nat.eq_zero_or_pos s with h | h
      · exact h
      · rw [List.getElem?_eq_none (by simp; omega)] at hu; cases hu
    subst this
    simp at hu
    subst hu
    simpa [Addr.add] using hc) (by simpa using h1) (by omega) (by simp [hs]; omega)
  refine ⟨_, hr, ⟨_, setRow_heap w g cs _ T (0, 0) h2, ?_, ?_⟩, ⟨rfl, rfl, rfl, by simp, fun k _ hk => setRow_other w g k _ hk⟩⟩
  · simp [hs]; omega
  · intro s hs'
    simp only [hs, Nat.mul_one, List.length_singleton]
    have hget := h4 s hs'
    rw [List.getElem?_toArray]
    by_cases e : s = j
    · subst e
      rw [if_pos rfl, List.append_assoc, List.getElem?_append_right (by simp; omega)]
      simp [h3, Nat.min_eq_left (Nat.le_of_lt hj)]
    · rw [if_neg e, ← hget]
      by_cases e2 : s < j
      · rw [List.append_assoc, List.getElem?_append_left (by simp [h3]; omega), List.getElem?_take_of_lt e2]
        simp
      · rw [List.getElem?_append_right (by simp [h3]; omega)]
        simp only [List.getElem?_drop, List.length_append, List.length_take, List.length_singleton, Array.length_toList, h3, Nat.min_eq_left (Nat.le_of_lt hj)]
        rw [show j + 1 + (s - (j + 1)) = s by omega]
        simp
end Go.Proofs.YtlchcilkdenjeaaGreatDoor
