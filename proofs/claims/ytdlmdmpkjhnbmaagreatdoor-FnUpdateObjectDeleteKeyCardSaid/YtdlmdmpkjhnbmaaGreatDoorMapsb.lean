/- Program-independent: a map that is ranged over, an entry of it set anew or taken out. -/
import Derived.Test.YtdlmdmpkjhnbmaaGreatDoorSlices
namespace Go.Gq
open Go Go.RowKit
variable {κ : Type} [DecidableEq κ]
theorem mem_modify_entry (kv v : Value) : ∀ (l : List MapEntry) (j : Nat), (l[j]?).map (·.key) = some kv → ∀ e ∈ l.modify j (fun e => { e with key := kv, val := v }), ∃ x ∈ l, e.born = x.born ∧ e.key = x.key
  | [], j, _, e, he => by simp at he
  | a :: l, 0, hj, e, he => by
    simp at hj
    rw [List.modify_zero_cons] at he
    rcases List.mem_cons.1 he with rfl | he
    · exact ⟨a, by simp, rfl, hj.symm⟩
    · exact ⟨e, by simp [he], rfl, rfl⟩
  | a :: l, j + 1, hj, e, he => by
    rw [List.modify_succ_cons] at he
    rcases List.mem_cons.1 he with rfl | he
    · exact ⟨e, by simp, rfl, rfl⟩
    · obtain ⟨x, hx, h⟩ := mem_modify_entry kv v l j (by simpa using hj) e he
      exact ⟨x, by simp [hx], h⟩
variable (K : KeyKind κ)
section
variable {P : Program} {t kt et : TypeId} (ht : P.underlying t = some (.map kt et)) (hk : P.underlying kt = some K.desc)
include ht hk
/-- An entry of a map that is ranged over is set anew. -/
theorem run_mapUpdate_iter (w : World) {r b : Nat} {done : List κ} {l : List (κ × Value)} (h : w.IterIs K r b done l) (k : κ) (v : Value) (hin : (lkp k l).isSome = true) :
    ∃ w', (Instr.mapUpdate t (.map (some b)) (K.wr k) v).run P w = .ok () w' ∧ w'.IterIs K r b done (aput k v l) ∧ Only b w w' := by
  have hb := mapIs_lt K (IterIs.map K h)
  obtain ⟨es, c, since, seen, st, h1, h2, h3, h4, h5, h6, h7, h8⟩ := h
  obtain ⟨q, r1, r2, r3⟩ := run_findKey K hk k w h2
  simp only [Instr.mapUpdate, Sem.run_bind, run_underlying ht, Result.andThen, MapKept.run_getObj_map h1]
  simp only [K.check P kt _ w k hk, r1]
  cases q with
  | none =>
    simp at r2
    rw [← r2] at hin; cases hin
  | some p =>
    obtain ⟨j, v0⟩ := p
    obtain ⟨j1, j2, j3⟩ := r3 j v0 rfl
    have e1 : ((es[j]?).map (·.key)).getD (K.wr k) = K.wr k := by rw [j3]; rfl
    have hmem : ∀ e ∈ (es.modify j (fun e => { e with key := K.wr k, val := v })).toList, ∃ x ∈ es.toList, e.born = x.born ∧ e.key = x.key := fun e he => by
      rw [Array.toList_modify] at he
      exact mem_modify_entry (K.wr k) v es.toList j (by simpa using j3) e he
    simp only [e1, Instr.keyThatStays, K.bits, if_true]
    refine ⟨_, run_setObj_map h1 _, ⟨_, _, since, seen, st, heap_setBlock _ hb, ⟨?_, nd_aput _ _ _ h2.nodup, ?_, ?_⟩, ?_, ?_, h5, ?_, h7, ?_⟩, only_setBlock _⟩
    · rw [Array.toList_modify]; exact modify_rep K h2.pairs h2.nodup k v j (by simpa using j1) j2
    · intro e he
      obtain ⟨x, hx, hx2, _⟩ := hmem e he
      have := h2.born x hx; omega
    · rw [Array.toList_modify, modify_born]; exact h2.bnodup
    · simp only [Array.getElem?_setIfInBounds, Ne.symm h7, if_false, h3]
    · intro e he
      obtain ⟨x, hx, hx2, _⟩ := hmem e he
      have := h4 x hx; omega
    · intro e he k' hk'
      obtain ⟨x, hx, hx2, hx3⟩ := hmem e he
      rw [hx2]
      exact h6 x hx k' (by rw [← hx3]; exact hk')
    · omega
/-- An entry of a map that is ranged over is taken out. -/
theorem run_delete_iter (w : World) {r b : Nat} {done : List κ} {l : List (κ × Value)} (h : w.IterIs K r b done l) (k : κ) (ty : TypeId) (u : TypeId) (hin : (lkp k l).isSome = true) :
    ∃ w', (Builtin.delete_ #[t, u] ty #[.map (some b), K.wr k]).run P w = .ok (.tuple #[]) w' ∧ w'.IterIs K r b done (adel k l) ∧ Only b w w' := by
  have hb := mapIs_lt K (IterIs.map K h)
  obtain ⟨es, c, since, seen, st, h1, h2, h3, h4, h5, h6, h7, h8⟩ := h
  obtain ⟨q, r1, r2, r3⟩ := run_findKey K hk k w h2
  have e0 : (#[t, u] : Array TypeId)[0]? = some t := rfl
  have e1 : (#[Value.map (some b), K.wr k] : Array Value)[0]? = some (Value.map (some b)) := rfl
  have e2 : (#[Value.map (some b), K.wr k] : Array Value)[1]? = some (K.wr k) := rfl
  simp only [Builtin.delete_, e0, e1, e2, Sem.run_bind, run_underlying ht, Result.andThen, MapKept.run_getObj_map h1]
  simp only [K.check P kt _ w k hk, r1]
  cases q with
  | none =>
    simp at r2
    rw [← r2] at hin; cases hin
  | some p =>
    obtain ⟨j, v0⟩ := p
    obtain ⟨j1, j2, j3⟩ := r3 j v0 rfl
    simp only [Sem.run_bind, run_setObj_map h1, Result.andThen]
    have e : (es.eraseIdxIfInBounds j).toList = es.toList.eraseIdx j := by
      unfold Array.eraseIdxIfInBounds
      rw [dif_pos j1, Array.toList_eraseIdx]
    have hmem : ∀ x ∈ (es.eraseIdxIfInBounds j).toList, x ∈ es.toList := fun x hx => by
      rw [e] at hx; exact List.mem_of_mem_eraseIdx hx
    refine ⟨_, rfl, ⟨_, _, since, seen, st, heap_setBlock _ hb, ⟨?_, nd_adel _ _ h2.nodup, fun x hx => h2.born x (hmem x hx), ?_⟩, ?_, fun x hx => h4 x (hmem x hx), h5, fun x hx => h6 x (hmem x hx), h7, h8⟩, only_setBlock _⟩
    · rw [e]; exact erase_rep K h2.pairs h2.nodup k j j2
    · rw [e]
      exact h2.bnodup.sublist ((List.eraseIdx_sublist _ _).map _)
    · simp only [Array.getElem?_setIfInBounds, Ne.symm h7, if_false, h3]
end
end Go.Gq
