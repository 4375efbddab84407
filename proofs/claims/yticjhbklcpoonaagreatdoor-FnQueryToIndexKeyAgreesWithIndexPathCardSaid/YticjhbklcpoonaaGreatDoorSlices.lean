/- Program-independent: slices that are read, rows that the call makes, what stays. -/
import Derived.WalkKit
import Derived.Below
import Derived.Deep.Draws
import Derived.Deep.OwnRows
import Derived.Deep.QuietTactic
import Derived.BigQuiet
import Derived.WalkSpells
import Derived.WalkLawsBesides
import Derived.Lib.Hide
import Derived.Stop.Asserts
import Derived.Deep.LoopGhost
import Derived.Laws.Cover3
import Derived.Laws.CopyRow
import Derived.Laws.IdiomCopy
import Derived.Lib.SliceRun
import Derived.Outline
import Derived.Test.YticjhbklcpoonaaGreatDoorMaps
namespace Go.Gq
open Go Go.RowKit

theorem eql_map_nil {P : Program} (w : World) (t k e : TypeId) (m : Option Nat) (h : P.underlying t = some (.map k e)) : (binOp .eql t (.map m) (.map none)).run P w = .ok (.bool m.isNone) w := by
  simp only [binOp]
  simp [run_equal_map_nil w t k e m h]
theorem eql_slice_nil {P : Program} (w : World) (t e : TypeId) (a : Option Addr) (l c : Nat) (h : P.underlying t = some (.slice e)) : (binOp .eql t (.slice a l c) (.slice none 0 0)).run P w = .ok (.bool a.isNone) w := Lib.run_eql_slice_nil w t e a l c 0 0 h

/-- A slice (its address, its length) whose elements, one cell each, are f 0, f 1, .. -/
def Rd (w : World) (a : Option Addr) (n : Nat) (f : Nat → Value) : Prop := n = 0 ∨ ∃ b off, a = some ⟨b, off, none⟩ ∧ ∀ i, i < n → w.cell? ⟨b, off + i, none⟩ = some (f i)
/-- Nothing that was there has turned but the blocks of S. -/
structure Keep (S : Nat → Prop) (w w' : World) : Prop where
  os : w'.os = w.os
  tape : w'.tape = w.tape
  output : w'.output = w.output
  size : w.heap.size ≤ w'.heap.size
  block : ∀ i, i < w.heap.size → ¬ S i → w'.heap[i]? = w.heap[i]?
abbrev Kept (w w' : World) : Prop := Below w.heap.size w w'
theorem Keep.refl (S : Nat → Prop) (w : World) : Keep S w w := ⟨rfl, rfl, rfl, Nat.le_refl _, fun _ _ _ => rfl⟩
theorem Keep.trans {S : Nat → Prop} {a b c : World} (h : Keep S a b) (k : Keep S b c) : Keep S a c :=
  ⟨k.os.trans h.os, k.tape.trans h.tape, k.output.trans h.output, Nat.le_trans h.size k.size, fun i hi hs => (k.block i (Nat.lt_of_lt_of_le hi h.size) hs).trans (h.block i hi hs)⟩
theorem Keep.mono {S S' : Nat → Prop} {a b : World} (h : Keep S a b) (hs : ∀ i, i < a.heap.size → S i → S' i) : Keep S' a b :=
  ⟨h.os, h.tape, h.output, h.size, fun i hi hn => h.block i hi fun hh => hn (hs i hi hh)⟩
theorem Keep.below {S : Nat → Prop} {a b : World} {B : Nat} (h : Keep S a b) (hB : B ≤ a.heap.size) (hs : ∀ i, S i → B ≤ i) : Below B a b :=
  ⟨h.os, h.tape, h.output, h.size, fun i hi => h.block i (by omega) fun hh => by have := hs i hh; omega⟩
theorem keep_of_below {a b : World} (S : Nat → Prop) (h : Kept a b) : Keep S a b := ⟨h.os, h.tape, h.output, h.size, fun i hi _ => h.block i hi⟩
theorem keep_of_only {a b : World} {S : Nat → Prop} {k : Nat} (h : Only k a b) (hk : S k) : Keep S a b := ⟨h.os, h.tape, h.output, Nat.le_of_eq h.size.symm, fun i _ hn => h.block i fun e => hn (e ▸ hk)⟩
theorem Kept.trans {a b c : World} (h : Kept a b) (k : Kept b c) : Kept a c := Below.trans h (Below.mono k h.size)
theorem kept_alloc (w : World) (o : Obj) : Kept w (w.alloc o) := (Below.refl _ _).alloc (Nat.le_refl _) o
theorem kept_drew (w : World) : Kept w w.drew := (Below.refl _ _).drew
theorem kept_drewN (w : World) (n : Nat) : Kept w (w.drewN n) := ⟨rfl, rfl, rfl, Nat.le_refl _, fun _ _ => rfl⟩
theorem cell_lt {w : World} {a : Addr} {v : Value} (h : w.cell? a = some v) : a.block < w.heap.size := World.block_lt_of_cell? _ _ h
theorem kept_cell {w w' : World} (h : Kept w w') {a : Addr} {v : Value} (hc : w.cell? a = some v) : w'.cell? a = some v := by rw [h.cell (cell_lt hc)]; exact hc
theorem Rd.kept {w w' : World} {a : Option Addr} {n : Nat} {f : Nat → Value} (h : Rd w a n f) (k : Kept w w') : Rd w' a n f := by
  rcases h with h | ⟨b, off, rfl, h⟩
  · exact .inl h
  · exact .inr ⟨b, off, rfl, fun i hi => kept_cell k (h i hi)⟩
theorem Rd.keep {S : Nat → Prop} {w w' : World} {a : Option Addr} {n : Nat} {f : Nat → Value} (h : Rd w a n f) (k : Keep S w w') (hs : ∀ x, a = some x → ¬ S x.block) : Rd w' a n f := by
  rcases h with h | ⟨b, off, rfl, h⟩
  · exact .inl h
  · refine .inr ⟨b, off, rfl, fun i hi => ?_⟩
    have := h i hi
    rw [World.cell?_of_block (w := w) (k.block b (cell_lt this) (hs _ rfl))]; exact this
theorem Rd.drewN {w : World} {a : Option Addr} {n : Nat} {f : Nat → Value} (h : Rd w a n f) (k : Nat) : Rd (w.drewN k) a n f := h.kept (kept_drewN w k)
theorem Rd.at {w : World} {a : Option Addr} {n : Nat} {f : Nat → Value} (h : Rd w a n f) {k : Nat} (hk : k < n) : ∃ b off, a = some ⟨b, off, none⟩ ∧ w.cell? ⟨b, off + k, none⟩ = some (f k) := by
  rcases h with h | ⟨b, off, rfl, h⟩
  · omega
  · exact ⟨b, off, rfl, h k hk⟩
theorem Rd.congr {w : World} {a : Option Addr} {n : Nat} {f g : Nat → Value} (h : Rd w a n f) (e : ∀ i, i < n → f i = g i) : Rd w a n g := by
  rcases h with h | ⟨b, off, rfl, h⟩
  · exact .inl h
  · exact .inr ⟨b, off, rfl, fun i hi => by rw [h i hi, e i hi]⟩
theorem rd_row {w : World} {b : Nat} {T : TypeId} {n : Nat} {f : Nat → Value} (h : w.rowIs b T n f) : Rd w (some ⟨b, 0, none⟩) n f := .inr ⟨b, 0, rfl, fun i hi => by rw [Nat.zero_add]; exact h.cell hi⟩
theorem rowIs_kept {w w' : World} {b : Nat} {T : TypeId} {n : Nat} {f : Nat → Value} (h : w.rowIs b T n f) (k : Kept w w') : w'.rowIs b T n f := h.of_block (k.block b h.lt)
theorem rowIs_keep {S : Nat → Prop} {w w' : World} {b : Nat} {T : TypeId} {n : Nat} {f : Nat → Value} (h : w.rowIs b T n f) (k : Keep S w w') (hb : ¬ S b) : w'.rowIs b T n f := h.of_block (k.block b h.lt hb)
theorem ret_int {k : IntKind} {a b : Int} (h : a = b) : Ending.returned (.int k a) = .returned (.int k b) := by rw [h]
theorem ret_bool {a b : Bool} (h : a = b) : Ending.returned (.bool a) = .returned (.bool b) := by rw [h]

theorem cell_not_map {κ : Type} [DecidableEq κ] {K : KeyKind κ} {w : World} {a : Addr} {v : Value} {c : Nat} {l : List (κ × Value)} (h : w.cell? a = some v) (hm : w.MapIs K c l) : a.block ≠ c := by
  obtain ⟨es, ck, h1, _⟩ := hm
  intro e; subst e
  unfold World.cell? at h; rw [h1] at h; cases h
theorem row_not_map {κ : Type} [DecidableEq κ] {K : KeyKind κ} {w : World} {b : Nat} {T : TypeId} {n : Nat} {f : Nat → Value} {c : Nat} {l : List (κ × Value)} (h : w.rowIs b T n f) (hm : w.MapIs K c l) : b ≠ c := by
  obtain ⟨es, ck, h1, _⟩ := hm
  obtain ⟨cs, h2, _⟩ := h
  intro e; subst e
  rw [h1] at h2; cases h2
/-- copy(dst[o:], src): the whole of src lands in a row of the call's own. -/
theorem run_copy_rd {P : Program} (w : World) (dT sT ty elem : TypeId) (b o dLen dCap : Nat) (va : Option Addr) (L vc : Nat) (M : Nat) (T : TypeId) (f g : Nat → Value)
    (hu : P.underlying dT = some (.slice elem)) (hs : (P.info? elem).map (·.size) = some 1) (hrow : w.rowIs b T M g) (h : Rd w va L f) (hfit : L ≤ dLen) (hfit2 : o + L ≤ M) (h1 : ∀ i, i < L → (f i).oneCell' = true) :
    ∃ w', (Builtin.copy_ #[dT, sT] ty #[.slice (some ⟨b, o, none⟩) dLen dCap, .slice va L vc]).run P w = .ok (.int .i64 (L : Int)) w' ∧ w'.rowIs b T M (fun t => if o ≤ t ∧ t < o + L then f (t - o) else g t) ∧ Only b w w' := by
  rcases Nat.eq_zero_or_pos L with h0 | h0
  · subst h0
    refine ⟨w, run_copy_none w dT sT ty elem (some ⟨b, o, none⟩) va dLen dCap 0 vc hu hs (Nat.zero_min _), hrow.congr fun i _ => ?_, ⟨rfl, rfl, rfl, rfl, fun _ _ => rfl⟩⟩
    exact (if_neg (by omega)).symm
  · rcases h with h | ⟨b2, off, rfl, h⟩
    · omega
    · obtain ⟨c, hc, hcs, hcc⟩ := hrow
      have hlen : ((List.range L).map f).length = L := by simp
      have hcopy := run_copy_row P w dT sT ty elem b o dLen dCap ⟨b2, off, none⟩ L vc c T ((List.range L).map f) hu hs hc (by rw [hlen]; exact (Nat.min_eq_left hfit).symm)
        (fun j v hj => by
          have hj' : j < L := by
            rcases Nat.lt_or_ge j L with hh | hh
            · exact hh
            · rw [List.getElem?_eq_none (by simpa using hh)] at hj; cases hj
          have e : (⟨b2, off, none⟩ : Addr).add j = ⟨b2, off + j, none⟩ := by unfold Addr.add; split <;> simp_all
          rw [e, h j hj']
          simpa [hj'] using hj)
        (by rw [hlen, hcs]; exact hfit2)
        (fun v hv => by
          obtain ⟨i, hi, rfl⟩ := List.mem_map.1 hv
          exact h1 i (by simpa using hi))
      rw [hlen] at hcopy
      have hb : b < w.heap.size := (Array.getElem?_eq_some_iff.1 hc).1
      refine ⟨_, hcopy, ⟨_, setRow_heap w b c _ T _ hc, ?_, ?_⟩, ?_⟩
      · simp; omega
      · intro i hi
        have hci : c.toList[i]? = some (g i) := by rw [← hcc i hi]; simp
        rw [List.getElem?_toArray, List.getElem?_append]
        show _ = some (if o ≤ i ∧ i < o + L then f (i - o) else g i)
        by_cases h3 : i < o + L
        · rw [if_pos (by simp; omega), List.getElem?_append]
          by_cases h4 : i < o
          · rw [if_pos (by simp; omega), List.getElem?_take, if_pos h4, hci, if_neg (by omega)]
          · rw [if_neg (by simp; omega), if_pos ⟨by omega, h3⟩]
            have : min o c.size = o := by omega
            simp only [List.length_take, Array.length_toList, this, List.getElem?_map, List.getElem?_range (show i - o < L by omega), Option.map_some]
        · rw [if_neg (by simp; omega), if_neg (by omega)]
          have : min o c.size = o := by omega
          simp only [List.length_append, List.length_take, Array.length_toList, this, List.length_map, List.length_range, List.getElem?_drop]
          rw [show o + L + (i - (o + L)) = i by omega, hci]
      · refine ⟨rfl, rfl, rfl, by simp [World.setRow], fun i hi => ?_⟩
        simp only [World.setRow, Array.getElem?_modify]
        rw [if_neg (Ne.symm hi)]

/-! ### Three new blocks, and rows off a block that is known whole -/
section
variable {w0 : World} {o1 o2 o3 : Obj} {s : Nat} (hs : w0.heap.size = s)
include hs
theorem heap3_1 : (((w0.alloc o1).alloc o2).alloc o3).drew.heap[s]? = some o1 := by
  subst hs
  show (((w0.alloc o1).alloc o2).alloc o3).heap[_]? = _
  rw [heap_alloc_old _ _ (by simp; omega), heap_alloc_old _ _ (by simp), heap_alloc_new]
theorem heap3_2 : (((w0.alloc o1).alloc o2).alloc o3).drew.heap[s + 1]? = some o2 := by
  subst hs
  show (((w0.alloc o1).alloc o2).alloc o3).heap[_]? = _
  rw [heap_alloc_old _ _ (by simp)]
  have := heap_alloc_new (w0.alloc o1) o2
  simpa using this
theorem heap3_3 : (((w0.alloc o1).alloc o2).alloc o3).drew.heap[s + 1 + 1]? = some o3 := by
  subst hs
  show (((w0.alloc o1).alloc o2).alloc o3).heap[_]? = _
  have := heap_alloc_new ((w0.alloc o1).alloc o2) o3
  simpa using this
theorem heap3_0 {b : Nat} (hb : b < s := by omega) : (((w0.alloc o1).alloc o2).alloc o3).drew.heap[b]? = w0.heap[b]? := by
  subst hs
  show (((w0.alloc o1).alloc o2).alloc o3).heap[_]? = _
  rw [heap_alloc_old _ _ (by simp; omega), heap_alloc_old _ _ (by simp; omega), heap_alloc_old _ _ hb]
omit hs in
theorem kept3 {w : World} {o0 : Obj} : Kept w ((((w.alloc o0).alloc o1).alloc o2).alloc o3).drew :=
  (((kept_alloc w o0).trans (kept_alloc _ o1)).trans (kept_alloc _ o2)).trans ((kept_alloc _ o3).trans (kept_drew _))
end
theorem row_made {w : World} {b n : Nat} {T : TypeId} {z : Value} (h : w.heap[b]? = some (.cells (madeCells #[z] n) T)) : w.rowIs b T n (fun _ => z) :=
  ⟨_, h, size_madeCells _ _, fun i hi => by simp [madeCells, hi, Nat.mod_one]⟩
theorem row_of {w : World} {b : Nat} {T : TypeId} {l : List Value} (h : w.heap[b]? = some (.cells l.toArray T)) : w.rowIs b T l.length (fun j => l.getD j undef) :=
  ⟨_, h, by simp, fun i hi => by simp [hi]⟩

/-! ### Six cells stored, one behind the other -/
def six (w : World) (b : Nat) (v0 v1 v2 v3 v4 v5 : Value) : World :=
  (((((w.setCell ⟨b, 0, none⟩ v0).setCell ⟨b, 1, none⟩ v1).setCell ⟨b, 2, none⟩ v2).setCell ⟨b, 3, none⟩ v3).setCell ⟨b, 4, none⟩ v4).setCell ⟨b, 5, none⟩ v5
theorem six_row {w : World} {b : Nat} {T : TypeId} {f : Nat → Value} (h : w.rowIs b T 6 f) (v0 v1 v2 v3 v4 v5 : Value) : (six w b v0 v1 v2 v3 v4 v5).rowIs b T 6 (fun j => [v0, v1, v2, v3, v4, v5].getD j undef) :=
  ((((((h.set 0 v0).set 1 v1).set 2 v2).set 3 v3).set 4 v4).set 5 v5).congr fun i hi => by
    match i, hi with
    | 0, _ => rfl
    | 1, _ => rfl
    | 2, _ => rfl
    | 3, _ => rfl
    | 4, _ => rfl
    | 5, _ => rfl
theorem six_other {w : World} {b b' : Nat} {T : TypeId} {n : Nat} {f : Nat → Value} (h : w.rowIs b' T n f) (hne : b' ≠ b) (v0 v1 v2 v3 v4 v5 : Value) : (six w b v0 v1 v2 v3 v4 v5).rowIs b' T n f :=
  (((((h.setOther (a := ⟨b, 0, none⟩) hne v0).setOther (a := ⟨b, 1, none⟩) hne v1).setOther (a := ⟨b, 2, none⟩) hne v2).setOther (a := ⟨b, 3, none⟩) hne v3).setOther (a := ⟨b, 4, none⟩) hne v4).setOther (a := ⟨b, 5, none⟩) hne v5
theorem six_below {w0 w : World} {B b : Nat} (h : Below B w0 w) (hb : B ≤ b) (v0 v1 v2 v3 v4 v5 : Value) : Below B w0 (six w b v0 v1 v2 v3 v4 v5) :=
  (((((h.setCell (p := ⟨b, 0, none⟩) hb v0).setCell (p := ⟨b, 1, none⟩) hb v1).setCell (p := ⟨b, 2, none⟩) hb v2).setCell (p := ⟨b, 3, none⟩) hb v3).setCell (p := ⟨b, 4, none⟩) hb v4).setCell (p := ⟨b, 5, none⟩) hb v5

/-- The elements of a list of ints, of strings, as the program's values. -/
def vi (xs : List Int) (i : Nat) : Value := .int .i64 (xs.getD i 0)
def vs (xs : List ByteArray) (i : Nat) : Value := .string (xs.getD i ByteArray.empty)
def vb (xs : List Bool) (i : Nat) : Value := .bool (xs.getD i false)
end Go.Gq
