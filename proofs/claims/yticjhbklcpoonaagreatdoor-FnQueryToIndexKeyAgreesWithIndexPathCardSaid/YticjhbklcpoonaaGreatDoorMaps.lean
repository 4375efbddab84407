/- Program-independent: a map's block read as an association list; the laws of the map operations on it. -/
import Derived.WalkKit
import Derived.Below
import Derived.Deep.Draws
import Derived.Maps.RangeWalk
namespace Go.Gq
open Go Go.RowKit

theorem bytes_beq (a b : ByteArray) : (a == b) = decide (a = b) := by
  cases a; cases b
  rename_i x y
  show (x == y) = _
  by_cases h : x = y
  · subst h; simp
  · have h1 : (x == y) = false := by simpa using h
    rw [h1]
    have h2 : ¬ ((⟨x⟩ : ByteArray) = ⟨y⟩) := fun e => h (by injection e)
    simp [h2]

/-- How the keys of one map are written. -/
structure KeyKind (κ : Type) [DecidableEq κ] where
  wr : κ → Value
  desc : TypeDesc
  same : ∀ a b, Instr.sameNow desc (wr a) (wr b) = some (decide (a = b))
  bits : ∀ n a, Instr.sameBits n (wr a) (wr a) = true
  check : ∀ (P : Program) (t : TypeId) (e : Bool) (w : World) (a : κ), P.underlying t = some desc → (Instr.checkKey e 10000 t (wr a)).run P w = .ok () w
  inj : ∀ a b, wr a = wr b → a = b

theorem check_string (P : Program) (t : TypeId) (e : Bool) (w : World) (a : ByteArray) (h : P.underlying t = some .string) : (Instr.checkKey e 10000 t (.string a)).run P w = .ok () w := by
  unfold Instr.checkKey; simp [run_underlying h]
theorem check_int (P : Program) (t : TypeId) (e : Bool) (w : World) (k : IntKind) (a : Int) (h : P.underlying t = some (.int k)) : (Instr.checkKey e 10000 t (.int k a)).run P w = .ok () w := by
  unfold Instr.checkKey; simp [run_underlying h]

def strKey : KeyKind ByteArray where
  wr := Value.string
  desc := .string
  same a b := by simp [Instr.sameNow, bytes_beq]
  bits n a := by cases n <;> simp [Instr.sameBits, bytes_beq]
  check := check_string
  inj a b h := by injection h
def intKey : KeyKind Int where
  wr := Value.int .i64
  desc := .int .i64
  same a b := by simp [Instr.sameNow]; rfl
  bits n a := by cases n <;> simp [Instr.sameBits]
  check P t e w a h := check_int P t e w .i64 a h
  inj a b h := by injection h

section
variable {κ : Type} [DecidableEq κ]

def lkp (k : κ) : List (κ × Value) → Option Value
  | [] => none
  | p :: l => if k = p.1 then some p.2 else lkp k l
def aput (k : κ) (v : Value) : List (κ × Value) → List (κ × Value)
  | [] => [(k, v)]
  | p :: l => if k = p.1 then (k, v) :: l else p :: aput k v l
def adel (k : κ) : List (κ × Value) → List (κ × Value)
  | [] => []
  | p :: l => if k = p.1 then l else p :: adel k l
def ND (l : List (κ × Value)) : Prop := (l.map (·.1)).Nodup

theorem lkp_aput (k x : κ) (v : Value) (l : List (κ × Value)) : lkp x (aput k v l) = if x = k then some v else lkp x l := by
  induction l with
  | nil => simp [aput, lkp]
  | cons p l ih =>
    simp only [aput]
    by_cases h : k = p.1
    · simp only [h, if_true, lkp]; split <;> rfl
    · simp only [h, if_false, lkp, ih]
      by_cases hx : x = p.1
      · have : ¬ x = k := fun e => h (e.symm.trans hx)
        simp [hx]; intro e; exact absurd e.symm h
      · simp [hx]
theorem mem_keys (k : κ) (l : List (κ × Value)) : k ∈ l.map (·.1) ↔ (lkp k l).isSome = true := by
  induction l with
  | nil => simp [lkp]
  | cons p l ih =>
    simp only [List.map_cons, List.mem_cons, lkp]
    by_cases h : k = p.1
    · simp [h]
    · simp [h, ← ih]
theorem lkp_none (k : κ) (l : List (κ × Value)) (h : k ∉ l.map (·.1)) : lkp k l = none := by
  have := mt (mem_keys k l).2 h
  cases hl : lkp k l <;> simp_all
theorem keys_aput (k : κ) (v : Value) (l : List (κ × Value)) : (aput k v l).map (·.1) = if (lkp k l).isSome then l.map (·.1) else l.map (·.1) ++ [k] := by
  induction l with
  | nil => simp [aput, lkp]
  | cons p l ih =>
    simp only [aput, lkp]
    by_cases h : k = p.1
    · simp [h]
    · simp only [h, if_false, List.map_cons, ih]; split <;> simp
theorem nd_aput (k : κ) (v : Value) (l : List (κ × Value)) (h : ND l) : ND (aput k v l) := by
  unfold ND at *
  rw [keys_aput]
  split
  · exact h
  · rename_i hn
    rw [List.nodup_append]
    refine ⟨h, by simp, fun a ha b hb => ?_⟩
    simp at hb; subst hb
    intro e; subst e
    exact hn ((mem_keys _ _).1 ha)
theorem length_aput (k : κ) (v : Value) (l : List (κ × Value)) : (aput k v l).length = if (lkp k l).isSome then l.length else l.length + 1 := by
  have := congrArg List.length (keys_aput k v l)
  simp only [List.length_map] at this
  rw [this]; split <;> simp
theorem keys_adel_sub (k x : κ) (l : List (κ × Value)) (h : x ∈ (adel k l).map (·.1)) : x ∈ l.map (·.1) := by
  induction l with
  | nil => simp [adel] at h
  | cons p l ih =>
    simp only [adel] at h
    by_cases hk : k = p.1
    · rw [if_pos hk] at h; simp only [List.map_cons, List.mem_cons]; exact .inr h
    · rw [if_neg hk] at h; simp only [List.map_cons, List.mem_cons] at *
      rcases h with h | h
      · exact .inl h
      · exact .inr (ih h)
theorem nd_adel (k : κ) (l : List (κ × Value)) (h : ND l) : ND (adel k l) := by
  induction l with
  | nil => exact h
  | cons p l ih =>
    obtain ⟨h1, h2⟩ := List.nodup_cons.1 h
    simp only [adel]
    split
    · exact h2
    · refine List.nodup_cons.2 ⟨fun hm => h1 (keys_adel_sub _ _ _ hm), ih h2⟩
theorem lkp_adel (k x : κ) (l : List (κ × Value)) (h : ND l) : lkp x (adel k l) = if x = k then none else lkp x l := by
  induction l with
  | nil => simp [adel, lkp]
  | cons p l ih =>
    obtain ⟨h1, h2⟩ := List.nodup_cons.1 h
    simp only [adel]
    by_cases hk : k = p.1
    · rw [if_pos hk]
      by_cases hx : x = k
      · rw [if_pos hx]; subst hx; rw [hk]; exact lkp_none _ _ h1
      · rw [if_neg hx, lkp, if_neg (by rw [← hk]; exact hx)]
    · rw [if_neg hk, lkp, ih h2, lkp]
      by_cases hx : x = k
      · subst hx; simp [hk]
      · simp [hx]
theorem length_adel (k : κ) (l : List (κ × Value)) : (adel k l).length = if (lkp k l).isSome then l.length - 1 else l.length := by
  induction l with
  | nil => simp [adel, lkp]
  | cons p l ih =>
    simp only [adel, lkp]
    by_cases hk : k = p.1
    · simp [hk]
    · simp only [hk, if_false, List.length_cons, ih]
      split
      · rename_i hs
        have : 0 < l.length := by
          cases l with
          | nil => simp [lkp] at hs
          | cons => simp
        omega
      · rfl

theorem nodup_len {α : Type} [DecidableEq α] : ∀ (a b : List α), a.Nodup → (∀ x ∈ a, x ∈ b) → a.length ≤ b.length
  | [], _, _, _ => Nat.zero_le _
  | x :: a, b, hn, hs => by
    obtain ⟨n1, n2⟩ := List.nodup_cons.1 hn
    have hx : x ∈ b := hs x (List.mem_cons.2 (.inl rfl))
    have := nodup_len a (b.erase x) n2 (fun y hy => by
      have hne : y ≠ x := fun e => n1 (e ▸ hy)
      exact (List.mem_erase_of_ne hne).2 (hs y (List.mem_cons.2 (.inr hy))))
    rw [List.length_erase_of_mem hx] at this
    have hb : 0 < b.length := List.length_pos_of_mem hx
    simp only [List.length_cons]; omega
/-- Two maps that hold the same have the same number of entries. -/
theorem same_length {l l' : List (κ × Value)} (h : ND l) (h' : ND l') (e : ∀ x, (lkp x l).isSome = (lkp x l').isSome) : l.length = l'.length := by
  have a := nodup_len (l.map (·.1)) (l'.map (·.1)) (show (l.map (·.1)).Nodup from h) (fun x hx => (mem_keys x l').2 (by rw [← e]; exact (mem_keys x l).1 hx))
  have b := nodup_len (l'.map (·.1)) (l.map (·.1)) (show (l'.map (·.1)).Nodup from h') (fun x hx => (mem_keys x l).2 (by rw [e]; exact (mem_keys x l').1 hx))
  simp only [List.length_map] at a b
  omega

/-- The block's entries, read as an association list. -/
structure Rep (K : KeyKind κ) (es : Array MapEntry) (clock : Nat) (l : List (κ × Value)) : Prop where
  pairs : es.toList.map (fun e => (e.key, e.val)) = l.map (fun p => (K.wr p.1, p.2))
  nodup : ND l
  born : ∀ e ∈ es.toList, e.born < clock
  bnodup : (es.toList.map (·.born)).Nodup

variable (K : KeyKind κ)

theorem Rep.unique {es : Array MapEntry} {c : Nat} {l l' : List (κ × Value)} (h : Rep K es c l) (h' : Rep K es c l') : l = l' := by
  have := h.pairs.symm.trans h'.pairs
  refine (List.map_inj_right ?_).1 this
  intro a b e
  injection e with e1 e2
  cases a; cases b; simp at *
  exact ⟨K.inj _ _ e1, e2⟩
theorem Rep.length {es : Array MapEntry} {c : Nat} {l : List (κ × Value)} (h : Rep K es c l) : es.size = l.length := by
  have := congrArg List.length h.pairs
  simpa using this

theorem findNow_rep (k : κ) : ∀ (es : List MapEntry) (l : List (κ × Value)) (i : Nat), es.map (fun e => (e.key, e.val)) = l.map (fun p => (K.wr p.1, p.2)) →
    ∃ r, Instr.findNow K.desc (K.wr k) es i = some r ∧ r.map (·.2) = lkp k l ∧ (∀ j v, r = some (j, v) → i ≤ j ∧ j < i + es.length ∧ (l[j - i]?).map (·.1) = some k ∧ (es[j - i]?).map (·.key) = some (K.wr k))
  | [], [], i, _ => ⟨none, rfl, rfl, fun j v h => by cases h⟩
  | e :: es, p :: l, i, h => by
    simp only [List.map_cons, List.cons.injEq, Prod.mk.injEq] at h
    obtain ⟨⟨h1, h2⟩, h3⟩ := h
    simp only [Instr.findNow, h1, K.same, lkp]
    by_cases hk : k = p.1
    · simp only [hk, decide_true, if_true]
      exact ⟨_, rfl, by simp [h2], fun j v hj => by cases hj; simp [h1]⟩
    · simp only [hk, decide_false, if_false]
      obtain ⟨r, r1, r2, r3⟩ := findNow_rep k es l (i + 1) h3
      refine ⟨r, r1, r2, fun j v hj => ?_⟩
      obtain ⟨a, b, c, d⟩ := r3 j v hj
      have e1 : j - i = (j - (i + 1)) + 1 := by omega
      refine ⟨by omega, by simp; omega, ?_, ?_⟩
      · rw [e1, List.getElem?_cons_succ]; exact c
      · rw [e1, List.getElem?_cons_succ]; exact d
  | [], _ :: _, _, h => by simp at h
  | _ :: _, [], _, h => by simp at h

theorem run_findKey {P : Program} {kt : TypeId} (hk : P.underlying kt = some K.desc) (k : κ) (w : World) {es : Array MapEntry} {c : Nat} {l : List (κ × Value)} (h : Rep K es c l) :
    ∃ r, (Instr.findKey kt (K.wr k) es.toList).run P w = .ok r w ∧ r.map (·.2) = lkp k l ∧ (∀ j v, r = some (j, v) → j < es.size ∧ (l[j]?).map (·.1) = some k ∧ (es[j]?).map (·.key) = some (K.wr k)) := by
  obtain ⟨r, r1, r2, r3⟩ := findNow_rep K k es.toList l 0 h.pairs
  refine ⟨r, by simp [Instr.findKey, run_underlying hk, r1], r2, fun j v hj => ?_⟩
  obtain ⟨a, b, c, d⟩ := r3 j v hj
  simp at b c d
  exact ⟨b, by simpa using c, by simpa using d⟩

/-! ### The world's maps -/
def _root_.Go.World.MapIs (w : World) (K : KeyKind κ) (b : Nat) (l : List (κ × Value)) : Prop := ∃ es clock, w.heap[b]? = some (.map es clock) ∧ Rep K es clock l

theorem mapIs_of_block {w w' : World} {b : Nat} {l : List (κ × Value)} (h : w.MapIs K b l) (e : w'.heap[b]? = w.heap[b]?) : w'.MapIs K b l := by
  obtain ⟨es, c, h1, h2⟩ := h
  exact ⟨es, c, by rw [e, h1], h2⟩
theorem mapIs_lt {w : World} {b : Nat} {l : List (κ × Value)} (h : w.MapIs K b l) : b < w.heap.size := by
  obtain ⟨es, c, h1, h2⟩ := h
  rcases Nat.lt_or_ge b w.heap.size with h | h
  · exact h
  · rw [Array.getElem?_eq_none h] at h1; cases h1
theorem mapIs_alloc {w : World} {b : Nat} {l : List (κ × Value)} (h : w.MapIs K b l) (o : Obj) : (w.alloc o).MapIs K b l :=
  mapIs_of_block K h (heap_alloc_old w o (mapIs_lt K h))
theorem mapIs_new (w : World) : (w.alloc (.map #[] 0)).MapIs K w.heap.size [] :=
  ⟨#[], 0, heap_alloc_new _ _, ⟨rfl, by simp [ND], by simp, by simp⟩⟩
theorem mapIs_setCell {w : World} {b : Nat} {l : List (κ × Value)} (h : w.MapIs K b l) (a : Addr) (v : Value) : (w.setCell a v).MapIs K b l := by
  obtain ⟨es, c, h1, h2⟩ := h
  refine ⟨es, c, ?_, h2⟩
  simp only [World.setCell, Array.getElem?_modify]
  by_cases e : a.block = b
  · simp [e, h1]
  · simp [e, h1]
theorem mapIs_unique {w : World} {b : Nat} {l l' : List (κ × Value)} (h : w.MapIs K b l) (h' : w.MapIs K b l') : l = l' := by
  obtain ⟨es, c, h1, h2⟩ := h
  obtain ⟨es', c', h1', h2'⟩ := h'
  rw [h1] at h1'; cases h1'
  exact h2.unique K h2'
theorem mapIs_nd {w : World} {b : Nat} {l : List (κ × Value)} (h : w.MapIs K b l) : ND l := by
  obtain ⟨es, c, h1, h2⟩ := h
  exact h2.nodup

section
variable {P : Program} {t kt et : TypeId} (ht : P.underlying t = some (.map kt et)) (hk : P.underlying kt = some K.desc)
include ht hk
theorem run_lookup_assoc (w : World) {b : Nat} {l : List (κ × Value)} (h : w.MapIs K b l) (k : κ) (z : Value) (hz : (zeroValue et).run P w = .ok z w) (ok : Bool) :
    (Instr.lookup t (.map (some b)) (K.wr k) ok).run P w = .ok (if ok then .tuple #[(lkp k l).getD z, .bool (lkp k l).isSome] else (lkp k l).getD z) w := by
  obtain ⟨es, c, h1, h2⟩ := h
  obtain ⟨r, r1, r2, _⟩ := run_findKey K hk k w h2
  simp only [Instr.lookup, Sem.run_bind, run_underlying ht, Result.andThen, MapKept.run_getObj_map h1]
  simp only [Sem.run, Pure.pure, K.check P kt _ w k hk, r1]
  cases r with
  | none => simp at r2; simp [← r2, hz]
  | some p => obtain ⟨j, v⟩ := p; simp at r2; simp [← r2, Sem.run]
theorem run_lookup_nilassoc (w : World) (k : κ) (z : Value) (hz : (zeroValue et).run P w = .ok z w) (ok : Bool) :
    (Instr.lookup t (.map none) (K.wr k) ok).run P w = .ok (if ok then .tuple #[z, .bool false] else z) w := by
  have h2 : Rep K #[] 0 ([] : List (κ × Value)) := ⟨rfl, by simp [ND], by simp, by simp⟩
  obtain ⟨r, r1, r2, _⟩ := run_findKey K hk k w h2
  simp only [Instr.lookup, Sem.run_bind, run_underlying ht, Result.andThen]
  simp only [Sem.run, Pure.pure, K.check P kt _ w k hk, r1]
  cases r with
  | none => simp [hz]
  | some p => simp [lkp] at r2
end

/-! ### Writing -/
/-- Only block b has turned. -/
structure Only (b : Nat) (w w' : World) : Prop where
  os : w'.os = w.os
  tape : w'.tape = w.tape
  output : w'.output = w.output
  size : w'.heap.size = w.heap.size
  block : ∀ i, i ≠ b → w'.heap[i]? = w.heap[i]?
omit [DecidableEq κ] in
theorem Only.below {b B : Nat} {w w' : World} (h : Only b w w') (hB : B ≤ b) : Below B w w' := ⟨h.os, h.tape, h.output, Nat.le_of_eq h.size.symm, fun i hi => h.block i (by omega)⟩
omit [DecidableEq κ] in
theorem Only.cell {b : Nat} {w w' : World} (h : Only b w w') {a : Addr} (ha : a.block ≠ b) : w'.cell? a = w.cell? a := World.cell?_of_block (h.block _ ha)
omit [DecidableEq κ] in
theorem Only.frozen {b : Nat} {w w' : World} (h : Only b w w') {a : Addr} (ha : a.block ≠ b) : w'.frozen? a = w.frozen? a := World.frozen?_of_block (h.block _ ha)
omit [DecidableEq κ] in
theorem only_setBlock {w : World} {b : Nat} (o : Obj) : Only b w { w with heap := w.heap.setIfInBounds b o } :=
  ⟨rfl, rfl, rfl, by simp, fun i hi => by simp [Ne.symm hi]⟩
omit [DecidableEq κ] in
theorem heap_setBlock {w : World} {b : Nat} (o : Obj) (hb : b < w.heap.size) : ({ w with heap := w.heap.setIfInBounds b o } : World).heap[b]? = some o := by
  simp [hb]
omit [DecidableEq κ] in
theorem run_setObj_map {P : Program} {w : World} {b : Nat} {es : Array MapEntry} {c : Nat} (h : w.heap[b]? = some (.map es c)) (o : Obj) :
    (setObj b o).run P w = .ok () { w with heap := w.heap.setIfInBounds b o } := by
  simp [setObj, Sem.run, h]
theorem modify_rep {es : List MapEntry} {l : List (κ × Value)} (h : es.map (fun e => (e.key, e.val)) = l.map (fun p => (K.wr p.1, p.2))) (nd : ND l) (k : κ) (v : Value) :
    ∀ j, j < es.length → (l[j]?).map (·.1) = some k → (es.modify j (fun e => { e with key := K.wr k, val := v })).map (fun e => (e.key, e.val)) = (aput k v l).map (fun p => (K.wr p.1, p.2)) := by
  induction es generalizing l with
  | nil => intro j hj; simp at hj
  | cons e es ih =>
    cases l with
    | nil => simp at h
    | cons p l =>
      simp only [List.map_cons, List.cons.injEq, Prod.mk.injEq] at h
      obtain ⟨⟨h1, h2⟩, h3⟩ := h
      obtain ⟨n1, n2⟩ := List.nodup_cons.1 nd
      intro j hj hl
      cases j with
      | zero =>
        simp at hl; subst hl
        simp [aput, h3]
      | succ j =>
        simp at hl
        have hmem : k ∈ l.map (·.1) := by
          obtain ⟨a, ha⟩ := hl
          exact List.mem_map.2 ⟨_, List.mem_of_getElem? ha, rfl⟩
        have hne : ¬ k = p.1 := fun e => n1 (by show p.1 ∈ _; rw [← e]; exact hmem)
        simp only [aput, if_neg hne, List.modify_succ_cons, List.map_cons, h1, h2]
        rw [ih h3 n2 j (by simpa using hj) (by simpa using hl)]
theorem erase_rep {es : List MapEntry} {l : List (κ × Value)} (h : es.map (fun e => (e.key, e.val)) = l.map (fun p => (K.wr p.1, p.2))) (nd : ND l) (k : κ) :
    ∀ j, (l[j]?).map (·.1) = some k → (es.eraseIdx j).map (fun e => (e.key, e.val)) = (adel k l).map (fun p => (K.wr p.1, p.2)) := by
  induction es generalizing l with
  | nil => intro j hj; cases l <;> simp at h hj
  | cons e es ih =>
    cases l with
    | nil => simp at h
    | cons p l =>
      simp only [List.map_cons, List.cons.injEq, Prod.mk.injEq] at h
      obtain ⟨⟨h1, h2⟩, h3⟩ := h
      obtain ⟨n1, n2⟩ := List.nodup_cons.1 nd
      intro j hl
      cases j with
      | zero =>
        simp at hl; subst hl
        simp [adel, h3]
      | succ j =>
        simp at hl
        have hmem : k ∈ l.map (·.1) := by
          obtain ⟨a, ha⟩ := hl
          exact List.mem_map.2 ⟨_, List.mem_of_getElem? ha, rfl⟩
        have hne : ¬ k = p.1 := fun e => n1 (by show p.1 ∈ _; rw [← e]; exact hmem)
        simp only [adel, if_neg hne, List.eraseIdx_cons_succ, List.map_cons, h1, h2]
        rw [ih h3 n2 j (by simpa using hl)]
omit [DecidableEq κ] in
theorem modify_born (es : List MapEntry) (k v : Value) (j : Nat) : (es.modify j (fun e => { e with key := k, val := v })).map (·.born) = es.map (·.born) := by
  induction es generalizing j with
  | nil => simp
  | cons e es ih => cases j <;> simp [ih]
theorem push_rep {l : List (κ × Value)} (k : κ) (v : Value) (h : lkp k l = none) : aput k v l = l ++ [(k, v)] := by
  induction l with
  | nil => rfl
  | cons p l ih =>
    simp only [lkp] at h
    by_cases hk : k = p.1
    · simp [hk] at h
    · rw [if_neg hk] at h; simp [aput, hk, ih h]

section
variable {P : Program} {t kt et : TypeId} (ht : P.underlying t = some (.map kt et)) (hk : P.underlying kt = some K.desc)
include ht hk
theorem run_mapUpdate_assoc (w : World) {b : Nat} {l : List (κ × Value)} (h : w.MapIs K b l) (k : κ) (v : Value) :
    ∃ w', (Instr.mapUpdate t (.map (some b)) (K.wr k) v).run P w = .ok () w' ∧ w'.MapIs K b (aput k v l) ∧ Only b w w' := by
  have hb := mapIs_lt K h
  obtain ⟨es, c, h1, h2⟩ := h
  obtain ⟨r, r1, r2, r3⟩ := run_findKey K hk k w h2
  simp only [Instr.mapUpdate, Sem.run_bind, run_underlying ht, Result.andThen, MapKept.run_getObj_map h1]
  simp only [K.check P kt _ w k hk, r1]
  cases r with
  | none =>
    simp at r2
    simp only [run_setObj_map h1]
    refine ⟨_, rfl, ⟨_, _, heap_setBlock _ hb, ?_⟩, only_setBlock _⟩
    refine ⟨?_, nd_aput _ _ _ h2.nodup, ?_, ?_⟩
    · rw [push_rep k v r2.symm]; simp [h2.pairs]
    · intro e he
      simp only [Array.toList_push, List.mem_append, List.mem_singleton] at he
      rcases he with he | rfl
      · have := h2.born e he; omega
      · simp
    · simp only [Array.toList_push, List.map_append, List.map_cons, List.map_nil]
      rw [List.nodup_append]
      refine ⟨h2.bnodup, by simp, fun a ha b hb e => ?_⟩
      simp at hb; subst hb; subst e
      obtain ⟨x, hx, hx2⟩ := List.mem_map.1 ha
      have := h2.born x hx; omega
  | some p =>
    obtain ⟨j, v0⟩ := p
    obtain ⟨j1, j2, j3⟩ := r3 j v0 rfl
    have e1 : ((es[j]?).map (·.key)).getD (K.wr k) = K.wr k := by rw [j3]; rfl
    simp only [e1, Instr.keyThatStays, K.bits, if_true]
    refine ⟨_, run_setObj_map h1 _, ⟨_, _, heap_setBlock _ hb, ?_⟩, only_setBlock _⟩
    refine ⟨?_, nd_aput _ _ _ h2.nodup, ?_, ?_⟩
    · rw [Array.toList_modify]; exact modify_rep K h2.pairs h2.nodup k v j (by simpa using j1) j2
    · intro e he
      have : e.born ∈ (es.modify j (fun e => { e with key := K.wr k, val := v })).toList.map (·.born) := List.mem_map.2 ⟨e, he, rfl⟩
      rw [Array.toList_modify, modify_born] at this
      obtain ⟨x, hx, hx2⟩ := List.mem_map.1 this
      have := h2.born x hx; omega
    · rw [Array.toList_modify, modify_born]; exact h2.bnodup
theorem run_delete_assoc (w : World) {b : Nat} {l : List (κ × Value)} (h : w.MapIs K b l) (k : κ) (ty : TypeId) (u : TypeId) :
    ∃ w', (Builtin.delete_ #[t, u] ty #[.map (some b), K.wr k]).run P w = .ok (.tuple #[]) w' ∧ w'.MapIs K b (adel k l) ∧ Only b w w' := by
  have hb := mapIs_lt K h
  obtain ⟨es, c, h1, h2⟩ := h
  obtain ⟨r, r1, r2, r3⟩ := run_findKey K hk k w h2
  have e0 : (#[t, u] : Array TypeId)[0]? = some t := rfl
  have e1 : (#[Value.map (some b), K.wr k] : Array Value)[0]? = some (Value.map (some b)) := rfl
  have e2 : (#[Value.map (some b), K.wr k] : Array Value)[1]? = some (K.wr k) := rfl
  simp only [Builtin.delete_, e0, e1, e2, Sem.run_bind, run_underlying ht, Result.andThen, MapKept.run_getObj_map h1]
  simp only [K.check P kt _ w k hk, r1]
  cases r with
  | none =>
    simp at r2
    simp only [Sem.run_bind, run_setObj_map h1, Result.andThen]
    refine ⟨_, rfl, ⟨_, _, heap_setBlock _ hb, ?_⟩, only_setBlock _⟩
    have e : adel k l = l := by
      clear h2 r1 r3
      induction l with
      | nil => rfl
      | cons p l ih =>
        simp only [lkp] at r2
        by_cases hk : k = p.1
        · rw [if_pos hk] at r2; cases r2
        · rw [if_neg hk] at r2; rw [adel, if_neg hk, ih r2]
    rw [e]; exact h2
  | some p =>
    obtain ⟨j, v0⟩ := p
    obtain ⟨j1, j2, j3⟩ := r3 j v0 rfl
    simp only [Sem.run_bind, run_setObj_map h1, Result.andThen]
    refine ⟨_, rfl, ⟨_, _, heap_setBlock _ hb, ?_⟩, only_setBlock _⟩
    have e : (es.eraseIdxIfInBounds j).toList = es.toList.eraseIdx j := by
      unfold Array.eraseIdxIfInBounds
      rw [dif_pos j1, Array.toList_eraseIdx]
    refine ⟨?_, nd_adel _ _ h2.nodup, ?_, ?_⟩
    · rw [e]; exact erase_rep K h2.pairs h2.nodup k j j2
    · intro x hx
      rw [e] at hx
      exact h2.born x (List.mem_of_mem_eraseIdx hx)
    · rw [e]
      exact h2.bnodup.sublist ((List.eraseIdx_sublist _ _).map _)
end
theorem run_len_assoc {P : Program} {t kt et : TypeId} (ht : P.underlying t = some (.map kt et)) (w : World) {b : Nat} {l : List (κ × Value)} (h : w.MapIs K b l) (ty : TypeId) :
    (Builtin.len_ #[t] ty #[.map (some b)]).run P w = .ok (.int .i64 l.length) w := by
  obtain ⟨es, c, h1, h2⟩ := h
  simp [Builtin.len_, run_underlying ht, MapKept.run_getObj_map h1, h2.length K, goInt]

/-! ### Ranging -/
/-- Block r is an iterator over the map in block b, which reads as l; the keys in 'done' have been handed out. -/
def _root_.Go.World.IterIs (w : World) (K : KeyKind κ) (r b : Nat) (done : List κ) (l : List (κ × Value)) : Prop :=
  ∃ es clock since seen stepped, w.heap[b]? = some (.map es clock) ∧ Rep K es clock l ∧ w.heap[r]? = some (.mapIter (some b) since seen stepped) ∧
    (∀ e ∈ es.toList, e.born < since) ∧ since ≤ stepped ∧ (∀ e ∈ es.toList, ∀ k, e.key = K.wr k → (seen.contains e.born = true ↔ k ∈ done)) ∧ r ≠ b ∧ stepped ≤ clock
theorem IterIs.map {w : World} {r b : Nat} {done : List κ} {l : List (κ × Value)} (h : w.IterIs K r b done l) : w.MapIs K b l := by
  obtain ⟨es, c, s, sn, st, h1, h2, _⟩ := h
  exact ⟨es, c, h1, h2⟩
theorem iterIs_of_block {w w' : World} {r b : Nat} {done : List κ} {l : List (κ × Value)} (h : w.IterIs K r b done l) (e : w'.heap[b]? = w.heap[b]?) (e' : w'.heap[r]? = w.heap[r]?) : w'.IterIs K r b done l := by
  obtain ⟨es, c, s, sn, st, h1, h2, h3, h4⟩ := h
  exact ⟨es, c, s, sn, st, by rw [e, h1], h2, by rw [e', h3], h4⟩
theorem run_range_assoc {P : Program} {t kt et : TypeId} (ht : P.underlying t = some (.map kt et)) (w : World) {b : Nat} {l : List (κ × Value)} (h : w.MapIs K b l) :
    ∃ o, (Instr.range t (.map (some b))).run P w = .ok (.pointer (some ⟨w.heap.size, 0, none⟩)) (w.alloc o) ∧ (w.alloc o).IterIs K w.heap.size b [] l := by
  have hb := mapIs_lt K h
  obtain ⟨es, c, h1, h2⟩ := h
  refine ⟨_, run_range_map w t kt et b es c ht h1, es, c, c, #[], c, ?_, h2, heap_alloc_new _ _, h2.born, Nat.le_refl _, ?_, by omega, Nat.le_refl _⟩
  · rw [heap_alloc_old w _ hb, h1]
  · intro e _ k _; simp
theorem key_of_mem {es : List MapEntry} {l : List (κ × Value)} (h : es.map (fun e => (e.key, e.val)) = l.map (fun p => (K.wr p.1, p.2))) {e : MapEntry} (he : e ∈ es) : ∃ k, e.key = K.wr k ∧ (k, e.val) ∈ l := by
  have : (e.key, e.val) ∈ l.map (fun p => (K.wr p.1, p.2)) := by rw [← h]; exact List.mem_map.2 ⟨e, he, rfl⟩
  obtain ⟨p, hp, e1⟩ := List.mem_map.1 this
  injection e1 with e1 e2
  exact ⟨p.1, e1.symm, by rw [← e2]; exact hp⟩
theorem mem_of_key {es : List MapEntry} {l : List (κ × Value)} (h : es.map (fun e => (e.key, e.val)) = l.map (fun p => (K.wr p.1, p.2))) {k : κ} (hk : k ∈ l.map (·.1)) : ∃ e ∈ es, e.key = K.wr k := by
  obtain ⟨p, hp, rfl⟩ := List.mem_map.1 hk
  have : (K.wr p.1, p.2) ∈ es.map (fun e => (e.key, e.val)) := by rw [h]; exact List.mem_map.2 ⟨p, hp, rfl⟩
  obtain ⟨e, he, e1⟩ := List.mem_map.1 this
  injection e1 with e1 e2
  exact ⟨e, he, e1⟩
theorem lkp_of_mem {l : List (κ × Value)} (nd : ND l) {k : κ} {v : Value} (h : (k, v) ∈ l) : lkp k l = some v := by
  induction l with
  | nil => cases h
  | cons p l ih =>
    obtain ⟨n1, n2⟩ := List.nodup_cons.1 nd
    rcases List.mem_cons.1 h with rfl | h
    · simp [lkp]
    · have : ¬ k = p.1 := fun e => n1 (by show p.1 ∈ _; rw [← e]; exact List.mem_map.2 ⟨_, h, rfl⟩)
      rw [lkp, if_neg this]; exact ih n2 h
theorem mem_of_lkp {l : List (κ × Value)} {k : κ} {v : Value} (h : lkp k l = some v) : (k, v) ∈ l := by
  induction l with
  | nil => cases h
  | cons p l ih =>
    simp only [lkp] at h
    by_cases hk : k = p.1
    · rw [if_pos hk] at h; injection h with h; subst hk; subst h; exact List.mem_cons.2 (.inl rfl)
    · rw [if_neg hk] at h; exact List.mem_cons.2 (.inr (ih h))
theorem key_uniq {es : List MapEntry} {l : List (κ × Value)} (h : es.map (fun e => (e.key, e.val)) = l.map (fun p => (K.wr p.1, p.2))) (nd : ND l) {e e' : MapEntry} (he : e ∈ es) (he' : e' ∈ es) (hk : e.key = e'.key) : e = e' := by
  induction es generalizing l with
  | nil => cases he
  | cons x es ih =>
    cases l with
    | nil => simp at h
    | cons p l =>
      simp only [List.map_cons, List.cons.injEq, Prod.mk.injEq] at h
      obtain ⟨⟨h1, h2⟩, h3⟩ := h
      obtain ⟨n1, n2⟩ := List.nodup_cons.1 nd
      have aux : ∀ y ∈ es, y.key ≠ x.key := fun y hy e => by
        obtain ⟨k, k1, k2⟩ := key_of_mem K h3 hy
        have : k = p.1 := K.inj _ _ (by rw [← k1, e, h1])
        exact n1 (by show p.1 ∈ _; rw [← this]; exact List.mem_map.2 ⟨_, k2, rfl⟩)
      rcases List.mem_cons.1 he with e1 | m1
      · rcases List.mem_cons.1 he' with e2 | m2
        · rw [e1, e2]
        · rw [e1] at hk; exact absurd hk.symm (aux _ m2)
      · rcases List.mem_cons.1 he' with e2 | m2
        · rw [e2] at hk; exact absurd hk (aux _ m1)
        · exact ih h3 n2 m1 m2

/-- The step: either every key has been handed out, and the world stands; or a key that has not been handed out comes. -/
theorem run_next_assoc0 {P : Program} (w : World) {r b : Nat} {done : List κ} {l : List (κ × Value)} (h : w.IterIs K r b done l) (ty : TypeId) :
    ((∀ k, k ∈ l.map (·.1) → k ∈ done) ∧ (Instr.next (.pointer (some ⟨r, 0, none⟩)) false ty).run P w = .ok (.tuple #[.bool false]) w) ∨
    ∃ k v w', k ∉ done ∧ lkp k l = some v ∧ (Instr.next (.pointer (some ⟨r, 0, none⟩)) false ty).run P w = .ok (.tuple #[.bool true, K.wr k, v]) w' ∧ w'.IterIs K r b (done ++ [k]) l ∧ Only r w w' ∧
      (Instr.entry (.pointer (some ⟨r, 0, none⟩))).run P w' = .ok (.tuple #[K.wr k, v]) w' := by
  obtain ⟨es, c, since, seen, st, h1, h2, h3, h4, h5, h6, h7, h8⟩ := h
  have hr : r < w.heap.size := by
    rcases Nat.lt_or_ge r w.heap.size with h | h
    · exact h
    · rw [Array.getElem?_eq_none h] at h3; cases h3
  simp only [Instr.next, getObj, Sem.run_bind, Sem.run, h3, h1, Result.andThen, next_test_false seen es since st h4 h5, Bool.false_eq_true, if_false]
  have hmem : ∀ x ∈ (Array.filter (fun e => !seen.contains e.born) es).toList, x ∈ es.toList ∧ seen.contains x.born = false := fun x hx => by
    have := Array.mem_filter.1 (Array.mem_toList_iff.1 hx)
    refine ⟨Array.mem_toList_iff.2 this.1, by simpa using this.2⟩
  have hall : ∀ x ∈ es.toList, seen.contains x.born = false → x ∈ (Array.filter (fun e => !seen.contains e.born) es).toList := fun x hx hs => by
    rw [Array.mem_toList_iff, Array.mem_filter]
    exact ⟨Array.mem_toList_iff.1 hx, by rw [hs]; rfl⟩
  generalize Array.filter (fun e => !seen.contains e.born) es = L at hmem hall ⊢
  have hold : ∀ x ∈ L.toList, x.born < since := fun x hx => h4 x (hmem x hx).1
  have e1 : L.filter (fun x => decide (x.born < since)) = L := Array.filter_eq_self.2 (fun x hx => by simpa using hold x (by simpa using hx))
  have e2 : L.filter (fun x => decide (x.born ≥ since)) = #[] := by
    rw [Array.filter_eq_empty_iff]
    intro x hx
    have := hold x (by simpa using hx)
    simp; omega
  simp only [e1, e2, Array.append_empty]
  by_cases h0 : L.size = 0
  · left
    have hL : L = #[] := Array.eq_empty_of_size_eq_zero h0
    subst hL
    refine ⟨fun k hk => ?_, by simp [choose, Sem.run, Question.forced]⟩
    obtain ⟨e, he, hek⟩ := mem_of_key K h2.pairs hk
    cases hs : seen.contains e.born with
    | true => exact (h6 e he k hek).1 hs
    | false => have := hall e he hs; simp at this
  · right
    have hne : L.isEmpty = false := by simp [Array.isEmpty, h0]
    simp only [hne, Bool.false_eq_true, if_false, Array.empty_append, Array.size_map]
    have hch : ∃ (j : Nat) (w1 : World), j < L.size ∧ w1.Alike w ∧ w1.tape = w.tape ∧ (choose (Question.mapNext L.size)).run P w = .ok j w1 := by
      by_cases hf : L.size ≤ 1
      · exact ⟨0, w, by omega, ⟨rfl, rfl, rfl⟩, rfl, by simp [choose, Sem.run, Question.forced, hf]⟩
      · exact ⟨_, w.drew, Nat.mod_lt _ (by omega), ⟨rfl, rfl, rfl⟩, rfl, by
          simp only [choose, Sem.run, Question.forced, decide_eq_true_eq, hf, if_false, Question.cut]
          rfl⟩
    obtain ⟨j, w1, hj, hal, htape, hrun⟩ := hch
    have hLj : L[j] ∈ L.toList := by simp
    obtain ⟨hin, hns⟩ := hmem _ hLj
    obtain ⟨k, hk1, hk2⟩ := key_of_mem K h2.pairs hin
    have h3' : w1.heap[r]? = some (.mapIter (some b) since seen st) := by rw [hal.1]; exact h3
    have hset : (setObj r (.mapIter (some b) since (seen.push L[j].born) c)).run P w1 = .ok () { w1 with heap := w1.heap.setIfInBounds r (.mapIter (some b) since (seen.push L[j].born) c) } := by
      simp [setObj, Sem.run, h3']
    have hhr : ({ w1 with heap := w1.heap.setIfInBounds r (.mapIter (some b) since (seen.push L[j].born) c) } : World).heap[r]? = some (.mapIter (some b) since (seen.push L[j].born) c) := by
      have : r < w1.heap.size := by rw [hal.1]; exact hr
      simp [this]
    have hhb : ({ w1 with heap := w1.heap.setIfInBounds r (.mapIter (some b) since (seen.push L[j].born) c) } : World).heap[b]? = some (.map es c) := by
      have : b ≠ r := Ne.symm h7
      simp only [Array.getElem?_setIfInBounds, h7, if_false, hal.1, h1]
    refine ⟨k, L[j].val, { w1 with heap := w1.heap.setIfInBounds r (.mapIter (some b) since (seen.push L[j].born) c) }, ?_, lkp_of_mem h2.nodup hk2, ?_, ?_, ?_, ?_⟩
    · intro hd
      have := (h6 _ hin k hk1).2 hd
      rw [hns] at this; cases this
    · simp only [hrun, Array.getElem?_map, Array.getElem?_eq_getElem hj, Option.map_some, Sem.run_bind, hset, Result.andThen, hk1]
      rfl
    · refine ⟨es, c, since, seen.push L[j].born, c, hhb, h2, hhr, h4, by omega, ?_, h7, Nat.le_refl _⟩
      intro e he k' hk'
      rw [contains_push, Bool.or_eq_true, h6 e he k' hk', List.mem_append, List.mem_singleton]
      constructor
      · rintro (h | h)
        · exact .inl h
        · right
          have hb := beq_iff_eq.1 h
          have : e = L[j] := by
            have hf1 := find_born e es.toList h2.bnodup he
            have hf2 := find_born L[j] es.toList h2.bnodup hin
            rw [hb, hf2] at hf1
            injection hf1 with hf1; exact hf1.symm
          subst this
          exact K.inj _ _ (hk'.symm.trans hk1)
      · rintro (h | h)
        · exact .inl h
        · right
          subst h
          rw [key_uniq K h2.pairs h2.nodup he hin (hk'.trans hk1.symm)]
          simp
    · exact ⟨hal.2.1, htape, hal.2.2, by simp [hal.1], fun i hi => by simp [Ne.symm hi, hal.1]⟩
    · have hf : es.find? (·.born == L[j].born) = some L[j] := by rw [← Array.find?_toList]; exact find_born _ es.toList h2.bnodup hin
      simp only [Instr.entry, getObj, Sem.run_bind, Sem.run, hhr, hhb, Result.andThen, Array.back?_push, bne_self_eq_false, Bool.false_eq_true, if_false, hf, hk1]
      rfl
theorem run_next_assoc {P : Program} (w : World) {r b : Nat} {done : List κ} {l : List (κ × Value)} (h : w.IterIs K r b done l) :
    ((∀ k, k ∈ l.map (·.1) → k ∈ done) ∧ ∀ ty, (Instr.next (.pointer (some ⟨r, 0, none⟩)) false ty).run P w = .ok (.tuple #[.bool false]) w) ∨
    ∃ k v w', k ∉ done ∧ lkp k l = some v ∧ (∀ ty, (Instr.next (.pointer (some ⟨r, 0, none⟩)) false ty).run P w = .ok (.tuple #[.bool true, K.wr k, v]) w') ∧ w'.IterIs K r b (done ++ [k]) l ∧ Only r w w' ∧
      (Instr.entry (.pointer (some ⟨r, 0, none⟩))).run P w' = .ok (.tuple #[K.wr k, v]) w' := by
  rcases run_next_assoc0 K (P := P) w h 0 with ⟨h1, h2⟩ | ⟨k, v, w', h1, h2, h3, h4⟩
  · exact .inl ⟨h1, fun _ => h2⟩
  · exact .inr ⟨k, v, w', h1, h2, fun _ => h3, h4⟩
end
end Go.Gq
