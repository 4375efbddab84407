/- Indices, suffixes and terms as they lie in the heap; what leaves them as they are. -/
import Derived.Test.YticjhbklcpoonaaGreatDoorTixb
namespace Go.Proofs.YticjhbklcpoonaaGreatDoor
open Go.RowKit Go.Gq
set_option maxRecDepth 100000
def TrueKept (w : World) (e : Ending) (w' : World) : Prop := e = .returned (.bool true) ∧ Kept w w'
def SomeBool (w : World) (e : Ending) (w' : World) : Prop := ∃ b, e = .returned (.bool b) ∧ w = w'
def SomeInt (w : World) (e : Ending) (w' : World) : Prop := ∃ z, e = .returned (.int .i64 z) ∧ w = w'
abbrev np : Value := .pointer none
abbrev ns : Value := .slice none 0 0
theorem beq_yes (s : ByteArray) : (s.toList == s.toList) = true := by simp
theorem rd_none {w : World} {n : Nat} {f : Nat → Value} (h : Rd w none n f) : n = 0 := by
  rcases h with h | ⟨b, off, e, h⟩
  · exact h
  · cases e
theorem rd_at0 {w : World} {b n : Nat} {f : Nat → Value} (h : Rd w (some ⟨b, 0, none⟩) n f) {k : Nat} (hk : k < n) : w.cell? ⟨b, k, none⟩ = some (f k) := by
  obtain ⟨b2, o, e, hc⟩ := h.at hk
  injection e with e
  injection e with e1 e2
  subst e1 e2
  rw [Nat.zero_add] at hc
  exact hc
theorem heap_lt {w : World} {b : Nat} {o : Obj} (h : w.heap[b]? = some o) : b < w.heap.size := (Array.getElem?_eq_some_iff.1 h).1
theorem cell_heap {w : World} {b : Nat} {cs : Array Value} {t : TypeId} (h : w.heap[b]? = some (.cells cs t)) {k : Nat} {v : Value} (hk : cs[k]? = some v) : w.cell? ⟨b, k, none⟩ = some v := by
  simp only [World.cell?, h]
  simpa using hk
theorem below_al {B : Nat} {a w : World} (h : Below B a w) (hB : B ≤ a.heap.size) (o : Obj) : Below B a (w.alloc o) := h.alloc (Nat.le_trans hB h.size) o
theorem IdxIs.up {B B' : Nat} {w w' : World} {i : Nat} {o : Option ByteArray} (h : IdxIs B w i o) (k : Below B w w') (hB : B ≤ B') : IdxIs B' w' i o := by
  obtain ⟨hi, h⟩ := h.below k
  refine ⟨by omega, ?_⟩
  rcases h with h | ⟨h0, q, s, qa, ql, qc, hq, h1⟩
  · exact .inl h
  · exact .inr ⟨h0, q, s, qa, ql, qc, by omega, h1⟩
theorem SufIs.up {B B' : Nat} {w w' : World} {b : Nat} {o : Option ByteArray} (h : SufIs B w b o) (k : Below B w w') (hB : B ≤ B') : SufIs B' w' b o := by
  obtain ⟨hb, h⟩ := h.below k
  refine ⟨by omega, ?_⟩
  rcases h with h | ⟨i, h1, h2⟩
  · exact .inl h
  · exact .inr ⟨i, h1, h2.up (Below.refl _ _) hB⟩
/-- An Index in the heap, with its key. -/
def IdxH (w : World) (i : Nat) (o : Option ByteArray) : Prop :=
  ∃ (nm : ByteArray) (p x y z : Value), w.heap[i]? = some (.cells #[.string nm, p, x, y, z] 76) ∧ ((nm.toList.isEmpty = false ∧ o = some nm) ∨
    (nm = ⟨#[]⟩ ∧ ∃ (q : Nat) (s : ByteArray) (qa : Option Addr) (ql qc : Nat), p = bq q ∧ w.heap[q]? = some (.cells #[.string s, .slice qa ql qc] 105) ∧ o = if qa.isNone = true then some s else none))
/-- A Suffix in the heap, with its key. -/
def SufH (w : World) (b : Nat) (o : Option ByteArray) : Prop :=
  ∃ p x y, w.heap[b]? = some (.cells #[p, x, y] 120) ∧ ((p = .pointer none ∧ o = none) ∨ ∃ i, p = bq i ∧ IdxH w i o)
/-- What stays: blocks of these three types. -/
def Stays (w w' : World) : Prop := ∀ (j : Nat) (cs : Array Value) (t : TypeId), (t = 120 ∨ t = 76 ∨ t = 105) → w.heap[j]? = some (.cells cs t) → w'.heap[j]? = w.heap[j]?
theorem IdxH.stays {w w' : World} {i : Nat} {o : Option ByteArray} (h : IdxH w i o) (k : Stays w w') : IdxH w' i o := by
  obtain ⟨nm, p, x, y, z, h1, h2⟩ := h
  refine ⟨nm, p, x, y, z, by rw [k i _ _ (by simp) h1]; exact h1, ?_⟩
  rcases h2 with h2 | ⟨h3, q, s, qa, ql, qc, h4, h5, h6⟩
  · exact .inl h2
  · exact .inr ⟨h3, q, s, qa, ql, qc, h4, by rw [k q _ _ (by simp) h5]; exact h5, h6⟩
theorem SufH.stays {w w' : World} {b : Nat} {o : Option ByteArray} (h : SufH w b o) (k : Stays w w') : SufH w' b o := by
  obtain ⟨p, x, y, h1, h2⟩ := h
  refine ⟨p, x, y, by rw [k b _ _ (by simp) h1]; exact h1, ?_⟩
  rcases h2 with h2 | ⟨i, h3, h4⟩
  · exact .inl h2
  · exact .inr ⟨i, h3, h4.stays k⟩
theorem stays_kept {w w' : World} (h : Kept w w') : Stays w w' := fun j _ _ _ hj => h.block j (heap_lt hj)
theorem stays_grown {w w' : World} {v : Value} {B n : Nat} {E : TypeId} {xs : List Value} (hE : E ≠ 120 ∧ E ≠ 76 ∧ E ≠ 105) (hown : w.ownsRow B E 1 v n xs) (hg : w.grownBy w' v.ownBlock) : Stays w w' := by
  intro j cs t ht hj
  refine hg.block j (heap_lt hj) fun e => ?_
  rcases hown.2 with ⟨h1, _⟩ | ⟨g, cap, cur, h1, _, h2, _⟩
  · rw [h1] at e; cases e
  · rw [h1] at e
    simp only [Value.ownBlock, Option.some.injEq] at e
    subst e
    rw [hj] at h2
    injection h2 with h2
    injection h2 with h2 h3
    subst h3
    rcases ht with rfl | rfl | rfl
    · exact hE.1 rfl
    · exact hE.2.1 rfl
    · exact hE.2.2 rfl
theorem stays_set {w : World} {b n : Nat} {E : TypeId} {f : Nat → Value} (hE : E ≠ 120 ∧ E ≠ 76 ∧ E ≠ 105) (hr : w.rowIs b E n f) (k : Nat) (v : Value) : Stays w (w.setCell ⟨b, k, none⟩ v) := by
  intro j cs t ht hj
  refine Go.Deep.blk_setCell_other _ _ _ _ fun e => ?_
  simp only at e
  subst e
  obtain ⟨c2, h2, _⟩ := hr
  rw [hj] at h2
  injection h2 with h2
  injection h2 with h2 h3
  subst h3
  rcases ht with rfl | rfl | rfl
  · exact hE.1 rfl
  · exact hE.2.1 rfl
  · exact hE.2.2 rfl
theorem stays_trans {a b c : World} (h : Stays a b) (k : Stays b c) : Stays a c := fun j cs t ht hj => by
  have e := h j cs t ht hj
  rw [k j cs t ht (by rw [e]; exact hj), e]
theorem row_grown {w w' : World} {t n B m : Nat} {R E : TypeId} {f : Nat → Value} {v : Value} {xs : List Value} (hne : R ≠ E) (hr : w.rowIs t R n f) (hown : w.ownsRow B E 1 v m xs) (hg : w.grownBy w' v.ownBlock) : w'.rowIs t R n f := by
  refine hr.of_block (hg.block t hr.lt fun e => ?_)
  obtain ⟨cs, h1, _⟩ := hr
  rcases hown.2 with ⟨h3, _⟩ | ⟨g, cap, cur, h3, _, h2, _⟩
  · rw [h3] at e; cases e
  · rw [h3] at e
    simp only [Value.ownBlock, Option.some.injEq] at e
    subst e
    rw [h1] at h2
    injection h2 with h2
    injection h2 with h2 h4
    exact hne h4
theorem own_kept {w w' : World} {B m : Nat} {E : TypeId} {v : Value} {xs : List Value} (h : w.ownsRow B E 1 v m xs) (k : Kept w w') : w'.ownsRow B E 1 v m xs := by
  refine ⟨h.1, ?_⟩
  rcases h.2 with h2 | ⟨g, cap, cur, h1, h2, h3, h4⟩
  · exact .inl h2
  · exact .inr ⟨g, cap, cur, h1, h2, by rw [k.block g (heap_lt h3)]; exact h3, h4⟩
theorem own_set {w : World} {B m t n : Nat} {R E : TypeId} {f : Nat → Value} {v : Value} {xs : List Value} (hne : R ≠ E) (h : w.ownsRow B E 1 v m xs) (hr : w.rowIs t R n f) (k : Nat) (u : Value) : (w.setCell ⟨t, k, none⟩ u).ownsRow B E 1 v m xs := by
  refine ⟨h.1, ?_⟩
  rcases h.2 with h2 | ⟨g, cap, cur, h1, h2, h3, h4⟩
  · exact .inl h2
  · refine .inr ⟨g, cap, cur, h1, h2, ?_, h4⟩
    rw [Go.Deep.blk_setCell_other _ _ _ _ fun e => ?_]
    · exact h3
    · simp only at e
      subst e
      obtain ⟨cs, h5, _⟩ := hr
      rw [h5] at h3
      injection h3 with h3
      injection h3 with h3 h6
      exact hne h6
theorem own_of_row {w : World} {b n B : Nat} {E : TypeId} {f : Nat → Value} (h : w.rowIs b E n f) (hB : B ≤ b) (hn : n ≤ maxLen) : w.ownsRow B E 1 (.slice (some ⟨b, 0, none⟩) n n) n ((List.range n).map f) := by
  obtain ⟨cs, h1, h2, h3⟩ := h
  refine ⟨by simp, .inr ⟨b, n, cs, rfl, hB, h1, Nat.le_refl _, hn, by omega, ?_⟩⟩
  apply List.ext_getElem?
  intro j
  by_cases hj : j < n
  · rw [List.getElem?_take_of_lt (by omega), Array.getElem?_toList, h3 j hj]
    simp [hj]
  · rw [List.getElem?_take_eq_none (by omega), List.getElem?_eq_none (by simp; omega)]
theorem IdxH.is {w : World} {i : Nat} {o : Option ByteArray} (h : IdxH w i o) : IdxIs w.heap.size w i o := by
  obtain ⟨nm, p, x, y, z, h1, h2⟩ := h
  refine ⟨heap_lt h1, ?_⟩
  rcases h2 with ⟨h3, h4⟩ | ⟨rfl, q, s, qa, ql, qc, rfl, h5, h6⟩
  · exact .inl ⟨nm, h3, cell_heap h1 rfl, h4⟩
  · exact .inr ⟨cell_heap h1 rfl, q, s, qa, ql, qc, heap_lt h5, cell_heap h1 rfl, cell_heap h5 rfl, cell_heap h5 rfl, h6⟩
theorem SufH.is {w : World} {b : Nat} {o : Option ByteArray} (h : SufH w b o) : SufIs w.heap.size w b o := by
  obtain ⟨p, x, y, h1, h2⟩ := h
  refine ⟨heap_lt h1, ?_⟩
  rcases h2 with ⟨rfl, h2⟩ | ⟨i, rfl, h3⟩
  · exact .inl ⟨cell_heap h1 rfl, h2⟩
  · exact .inr ⟨i, cell_heap h1 rfl, h3.is⟩
theorem TermIx.congr {B : Nat} {w : World} {t : Nat} {ks ks' : List (Option ByteArray)} (h : TermIx B w t ks) (e : allSome ks = allSome ks') (hl : ks.length ≤ ks'.length) : TermIx B w t ks' := by
  intro w1 v xs h1 h2 h3 h4
  refine (h w1 v xs h1 h2 (by omega) h4).mono fun en w' hh => ?_
  unfold TixAns at hh ⊢
  rw [← e]
  exact hh
theorem other_ix (B t : Nat) (ty : Int) (w : World) (ht : t < B) (c0 : w.cell? ⟨t, 0, none⟩ = some (.int .i64 ty)) (h1 : ty ≠ 6) (h2 : ty ≠ 20) : TermIx B w t [none] := by
  intro w1 v xs hb _ _ _
  exact (term_none t ty v w1 (below_cell hb ht c0) h1 h2).mono fun e w' ⟨h3, h4⟩ => ⟨h4 ▸ Below.refl _ _, .inl ⟨rfl, h3⟩⟩
/-- A term whose suffixes are a row of their own: F its cells but the last. -/
def TermSt (B : Nat) (w : World) (t : Nat) (F : Nat → Value) (v : Value) (m : Nat) (sb : Nat → Nat) (ko : Nat → Option ByteArray) (ix : Option (Nat × Option ByteArray)) : Prop :=
  B ≤ t ∧ w.rowIs t 88 17 (fun j => if j = 16 then v else F j) ∧ w.ownsRow B 60 1 v m ((List.range m).map (fun j => bq (sb j))) ∧ (∀ j, j < m → SufH w (sb j) (ko j)) ∧ ∀ i o, ix = some (i, o) → IdxH w i o
theorem TermSt.kept {B : Nat} {w w' : World} {t : Nat} {F : Nat → Value} {v : Value} {m : Nat} {sb : Nat → Nat} {ko : Nat → Option ByteArray} {ix : Option (Nat × Option ByteArray)} (h : TermSt B w t F v m sb ko ix) (k : Kept w w') : TermSt B w' t F v m sb ko ix :=
  ⟨h.1, rowIs_kept h.2.1 k, own_kept h.2.2.1 k, fun j hj => (h.2.2.2.1 j hj).stays (stays_kept k), fun i o e => (h.2.2.2.2 i o e).stays (stays_kept k)⟩
/-- The list of suffixes of such a term: its address, its length. -/
theorem TermSt.slice {B : Nat} {w : World} {t : Nat} {F : Nat → Value} {v : Value} {m : Nat} {sb : Nat → Nat} {ko : Nat → Option ByteArray} {ix : Option (Nat × Option ByteArray)} (h : TermSt B w t F v m sb ko ix) : ∃ sa sc, v = .slice sa m sc ∧ Rd w sa m (fun j => bq (sb j)) ∧ ∀ x, sa = some x → x.block < w.heap.size := by
  have ho := h.2.2.1
  rcases ho.2 with ⟨h1, h2⟩ | ⟨g, cap, cur, h1, h2, h3, _⟩
  · subst h2
    exact ⟨none, 0, h1, .inl rfl, fun x e => by cases e⟩
  · exact ⟨_, _, h1, (own_rd ho h1 _ fun i hi => by simp [hi]).2, fun x e => by injection e with e; subst e; exact heap_lt h3⟩
theorem map_upd (k z : Nat) (sb : Nat → Nat) : (List.range (k + 1)).map (fun j => bq (if j = k then z else sb j)) = (List.range k).map (fun j => bq (sb j)) ++ [bq z] := by
  rw [List.range_succ, List.map_append, List.map_singleton, if_pos rfl]
  congr 1
  exact List.map_congr_left fun j hj => by have := List.mem_range.1 hj; rw [if_neg (by omega)]
/-- One suffix more: the append, then the store. -/
theorem TermSt.app {B : Nat} {w1 w2 : World} {t : Nat} {F : Nat → Value} {v : Value} {m : Nat} {sb : Nat → Nat} {ko : Nat → Option ByteArray} {ix : Option (Nat × Option ByteArray)} (h : TermSt B w1 t F v m sb ko ix) {sf : Nat} (hs : SufH w1 sf (ko m)) {g cap : Nat}
    (ho2 : w2.ownsRow B 60 1 (.slice (some ⟨g, 0, none⟩) (m + 1) cap) (m + 1) ((List.range m).map (fun j => bq (sb j)) ++ [bq sf])) (hg2 : (w1.alloc (.cells #[bq sf] 60)).grownBy w2 v.ownBlock) :
    TermSt B (w2.setCell ⟨t, 16, none⟩ (.slice (some ⟨g, 0, none⟩) (m + 1) cap)) t F (.slice (some ⟨g, 0, none⟩) (m + 1) cap) (m + 1) (fun j => if j = m then sf else sb j) ko ix := by
  obtain ⟨h1, h2, h3, h4, h5⟩ := h
  have hown2 := own_alloc h3 (.cells #[bq sf] 60)
  have hrow2 := row_grown (by decide) (h2.alloc _) hown2 hg2
  have hst : Stays w1 (w2.setCell ⟨t, 16, none⟩ (.slice (some ⟨g, 0, none⟩) (m + 1) cap)) :=
    stays_trans (stays_kept (kept_alloc w1 _)) (stays_trans (stays_grown (by decide) hown2 hg2) (stays_set (by decide) hrow2 16 _))
  refine ⟨h1, (hrow2.set 16 _).congr fun j hj => ?_, ?_, fun j hj => ?_, fun i o e => (h5 i o e).stays hst⟩
  · by_cases e : j = 16
    · simp [e]
    · simp [e]
  · have := own_set (by decide) ho2 hrow2 16 (.slice (some ⟨g, 0, none⟩) (m + 1) cap)
    rw [← map_upd m sf sb] at this
    exact this
  · show SufH _ (if j = m then sf else sb j) (ko j)
    by_cases e : j = m
    · rw [if_pos e, e]
      exact hs.stays hst
    · rw [if_neg e]
      exact (h4 j (by omega)).stays hst
/-- A Term's cells. -/
abbrev termC (ty : Int) (ix : Value) (num : ByteArray) (un st q sl : Value) : Array Value := #[.int .i64 ty, ix, np, np, np, .string num, un, .string ⟨#[]⟩, st, np, np, np, np, np, .string ⟨#[]⟩, q, sl]
abbrev queryC (t : Nat) : Array Value := #[np, ns, ns, bq t, np, np, ns, .int .i64 0]
def termF (ty : Int) (ix q : Value) : Nat → Value := fun j => if j = 0 then .int .i64 ty else if j = 1 then ix else if j = 15 then q else if j = 5 ∨ j = 7 ∨ j = 14 then .string ⟨#[]⟩ else np
theorem term_row (w : World) (ty : Int) (ix q sl : Value) : (w.alloc (.cells (termC ty ix ⟨#[]⟩ np np q sl) 88)).rowIs w.heap.size 88 17 (fun j => if j = 16 then sl else termF ty ix q j) :=
  World.rowIs_alloc w (termC ty ix ⟨#[]⟩ np np q sl) 88 _ (fun i hi => by
    have hi' : i < 17 := hi
    rcases (show i = 0 ∨ i = 1 ∨ i = 2 ∨ i = 3 ∨ i = 4 ∨ i = 5 ∨ i = 6 ∨ i = 7 ∨ i = 8 ∨ i = 9 ∨ i = 10 ∨ i = 11 ∨ i = 12 ∨ i = 13 ∨ i = 14 ∨ i = 15 ∨ i = 16 by omega) with rfl | rfl | rfl | rfl | rfl | rfl | rfl | rfl | rfl | rfl | rfl | rfl | rfl | rfl | rfl | rfl | rfl <;> rfl)
end Go.Proofs.YticjhbklcpoonaaGreatDoor
