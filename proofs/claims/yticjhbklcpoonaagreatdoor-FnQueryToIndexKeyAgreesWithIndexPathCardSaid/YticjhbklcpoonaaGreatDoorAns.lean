/- A query that answers with K in every later world. -/
import Derived.Test.YticjhbklcpoonaaGreatDoorZqk
namespace Go.Proofs.YticjhbklcpoonaaGreatDoor
open Go.RowKit Go.Gq
set_option maxRecDepth 100000
def AnsAt (w : World) (q : Nat) (K : KOut) : Prop := ∀ w2, Kept w w2 → Gl w2 → Calls Tryz.prog 45 #[.pointer (some ⟨q, 0, none⟩)] w2 (KeyAns K w2)
theorem AnsAt.kept {w w1 : World} {q : Nat} {K : KOut} (h : AnsAt w q K) (k : Kept w w1) : AnsAt w1 q K := fun w2 k2 g => h w2 (k.trans k2) g
/-- What a number's text gives. -/
def TextK (s : ByteArray) (K : KOut) : Prop := (∃ z, K = .int z ∧ s.size ≤ 5 ∧ zzDec s.data.toList = some z) ∨ (K = .other ∧ Lit4 s)
theorem ans_num (w : World) (q b : Nat) (s : ByteArray) (K : KOut) (hs : TextK s K) (c3 : w.cell? ⟨q, 3, none⟩ = some (.pointer (some ⟨b, 0, none⟩))) (b0 : w.cell? ⟨b, 0, none⟩ = some (.int .i64 10)) (b5 : w.cell? ⟨b, 5, none⟩ = some (.string s)) : AnsAt w q K := by
  intro w2 k G
  refine qkey_term q b K w2 (kept_cell k c3) ?_
  rcases hs with ⟨z, rfl, hz, hd⟩ | ⟨rfl, hl⟩
  · exact (key_num b s z w2 (by omega) hd (kept_cell k b0) (kept_cell k b5)).mono fun e x ⟨h1, h2⟩ => ⟨_, h1, rfl, h2⟩
  · exact (key_lit b s hl w2 G (kept_cell k b0) (kept_cell k b5)).mono fun e x ⟨v, h1, h2, h3⟩ => ⟨v, h1, h2.n, h3⟩
theorem ans_nil (w : World) (q : Nat) (c3 : w.cell? ⟨q, 3, none⟩ = some (.pointer none)) : AnsAt w q .none := fun w2 k _ => qkey_nil q w2 (kept_cell k c3)
def KOut.neg : KOut → KOut
  | .int z => .int (-z)
  | k => k
theorem ans_un (w : World) (q b u t : Nat) (op : Int) (s : ByteArray) (K : KOut) (hs : TextK s K) (c3 : w.cell? ⟨q, 3, none⟩ = some (.pointer (some ⟨b, 0, none⟩))) (b0 : w.cell? ⟨b, 0, none⟩ = some (.int .i64 11)) (b6 : w.cell? ⟨b, 6, none⟩ = some (.pointer (some ⟨u, 0, none⟩)))
    (u0 : w.cell? ⟨u, 0, none⟩ = some (.int .i64 op)) (u1 : w.cell? ⟨u, 1, none⟩ = some (.pointer (some ⟨t, 0, none⟩))) (t0 : w.cell? ⟨t, 0, none⟩ = some (.int .i64 10)) (t5 : w.cell? ⟨t, 5, none⟩ = some (.string s)) : AnsAt w q (if op = 4 then K.neg else K) := by
  intro w2 k G
  refine qkey_term q b _ w2 (kept_cell k c3) ?_
  rcases hs with ⟨z, rfl, hz, hd⟩ | ⟨rfl, hl⟩
  · exact (key_un b u t op s z _ rfl w2 (by omega) hd (kept_cell k b0) (kept_cell k b6) (kept_cell k u0) (kept_cell k u1) (kept_cell k t0) (kept_cell k t5)).mono fun e x ⟨h1, h2⟩ => ⟨_, h1, by split <;> rfl, h2⟩
  · exact (key_un_lit b u t op s hl w2 G (kept_cell k b0) (kept_cell k b6) (kept_cell k u0) (kept_cell k u1) (kept_cell k t0) (kept_cell k t5)).mono fun e x ⟨v, h1, h2, h3⟩ => ⟨v, h1, by split <;> exact h2, h3⟩
theorem ans_other (w : World) (q b : Nat) (ty : Int) (c3 : w.cell? ⟨q, 3, none⟩ = some (.pointer (some ⟨b, 0, none⟩))) (b0 : w.cell? ⟨b, 0, none⟩ = some (.int .i64 ty)) (h1 : ty ≠ 10) (h2 : ty ≠ 11) (h3 : ty ≠ 13) : AnsAt w q .none := by
  intro w2 k G
  refine qkey_term q b _ w2 (kept_cell k c3) ?_
  exact (key_other b ty w2 (kept_cell k b0) h1 h2 h3).mono fun e x h => ⟨_, h.1, rfl, by cases h.2; exact Below.refl _ _⟩
theorem ans_str (w : World) (q b g : Nat) (s : ByteArray) (qa : Option Addr) (ql qc : Nat) (c3 : w.cell? ⟨q, 3, none⟩ = some (.pointer (some ⟨b, 0, none⟩))) (b0 : w.cell? ⟨b, 0, none⟩ = some (.int .i64 13)) (b8 : w.cell? ⟨b, 8, none⟩ = some (.pointer (some ⟨g, 0, none⟩)))
    (s0 : w.cell? ⟨g, 0, none⟩ = some (.string s)) (s1 : w.cell? ⟨g, 1, none⟩ = some (.slice qa ql qc)) : AnsAt w q (if qa.isNone = true then .str s else .none) := by
  intro w2 k G
  refine qkey_term q b _ w2 (kept_cell k c3) ?_
  exact (key_str b g s qa ql qc w2 (kept_cell k b0) (kept_cell k b8) (kept_cell k s0) (kept_cell k s1)).mono fun e x h => ⟨_, h.1, by split <;> rfl, by cases h.2; exact Below.refl _ _⟩
theorem ans_un_other (w : World) (q b u t : Nat) (op ty : Int) (c3 : w.cell? ⟨q, 3, none⟩ = some (.pointer (some ⟨b, 0, none⟩))) (b0 : w.cell? ⟨b, 0, none⟩ = some (.int .i64 11)) (b6 : w.cell? ⟨b, 6, none⟩ = some (.pointer (some ⟨u, 0, none⟩)))
    (u0 : w.cell? ⟨u, 0, none⟩ = some (.int .i64 op)) (u1 : w.cell? ⟨u, 1, none⟩ = some (.pointer (some ⟨t, 0, none⟩))) (t0 : w.cell? ⟨t, 0, none⟩ = some (.int .i64 ty)) (h : ty ≠ 10) : AnsAt w q .none := by
  intro w2 k G
  refine qkey_term q b _ w2 (kept_cell k c3) ?_
  exact (key_un_other b u t op ty w2 (kept_cell k b0) (kept_cell k b6) (kept_cell k u0) (kept_cell k u1) (kept_cell k t0) h).mono fun e x h => ⟨_, h.1, rfl, by cases h.2; exact Below.refl _ _⟩
end Go.Proofs.YticjhbklcpoonaaGreatDoor
