/- The contract of delpaths at an array of ints and paths of one index each. -/
import Derived.Test.YtlchcilkdenjeaaGreatDoorMark
namespace Go.Proofs.YtlchcilkdenjeaaGreatDoor
open Go.RowKit Go.Gq
set_option maxRecDepth 100000
theorem rowIs_same {w w' : World} {b : Nat} {T : TypeId} {n : Nat} {f : Nat → Value} (h : w.rowIs b T n f) (h' : w'.rowIs b T n f) : w'.heap[b]? = w.heap[b]? := by
  obtain ⟨c, h1, h2, h3⟩ := h
  obtain ⟨c', h1', h2', h3'⟩ := h'
  have : c = c' := by
    apply Array.ext_getElem?
    intro i
    by_cases hi : i < n
    · rw [h3 i hi, h3' i hi]
    · rw [Array.getElem?_eq_none (by omega), Array.getElem?_eq_none (by omega)]
  rw [h1, h1', this]
/-- The position that an index names. -/
def norm (n : Nat) (i : Int) : Int := if i < 0 then i + n else i
/-- One more mark. -/
def markAt (n : Nat) (i : Int) (g : Nat → Option Int) : Nat → Option Int := fun t => if (t : Int) = norm n i then none else g t
/-- The marks after the first k indices. -/
def gm (n : Nat) (z idx : Nat → Int) : Nat → Nat → Option Int
  | 0 => fun t => some (z t)
  | k + 1 => markAt n (idx k) (gm n z idx k)
/-- Where delpaths stands: u holds the array under g; the input stands as it stood. -/
def DelSt (ma : Option Nat) (w0 : World) (b0 n : Nat) (z : Nat → Int) (g : Nat → Option Int) (u : Value) (wr : World) : Prop :=
  Keep (fun x => ma = some x) w0 wr ∧ ∃ b, u = .iface 25 (.slice (some ⟨b, 0, none⟩) n n) ∧ wr.rowIs b 20 n (fun t => mv (g t)) ∧
    (AllocIs wr ma [] ∨ (w0.heap.size ≤ b ∧ ∃ mb, ma = some mb ∧ mb < w0.heap.size ∧ wr.MapIs intKey mb [((0 : Int), u)])) ∧ (w0.heap.size ≤ b ∨ (b = b0 ∧ ∀ t, t < n → g t = some (z t)))
theorem mv_one (o : Option Int) : (mv o).oneCell' = true := by cases o <;> rfl
theorem update_mark (ma : Option Nat) (w0 : World) (b0 n : Nat) (z : Nat → Int) (g : Nat → Option Int) (u : Value) (wr : World) (pb : Nat) (i : Int) (hn : n ≤ 1048576) (hst : DelSt ma w0 b0 n z g u wr) (hp : wr.cell? ⟨pb, 0, none⟩ = some (ib i)) (hi0 : -9223372036854775808 ≤ i) (hi1 : i ≤ 9223372036854775807) (ha0 : AllocIs w0 ma []) :
    Calls Tryz.prog 34 #[u, .slice (some ⟨pb, 0, none⟩) 1 1, mk0, .map ma] wr (Two fun u' err w' => err = .nilIface ∧ DelSt ma w0 b0 n z (markAt n i g) u' w') := by
  obtain ⟨hk, b, rfl, hrow, hown, hb⟩ := hst
  refine update_idx_arr pb _ ma wr (some ⟨b, 0, none⟩) n n i hp ?_
  by_cases ho : (i < 0 ∧ i + n < 0) ∨ (n : Int) ≤ i
  · refine (updateArrayIndex_out ⟨b, 0, none⟩ n n i _ _ ma wr hi0 hi1 ho (by omega)).mono ?_
    rintro e w' ⟨rfl, rfl⟩
    have hg : ∀ t, t < n → markAt n i g t = g t := fun t ht => by
      unfold markAt norm
      rw [if_neg]
      split <;> omega
    refine ⟨_, _, rfl, rfl, hk, b, rfl, hrow.congr fun t ht => by rw [hg t ht], hown, ?_⟩
    rcases hb with hb | ⟨hb, hz⟩
    · exact .inl hb
    · exact .inr ⟨hb, fun t ht => by rw [hg t ht]; exact hz t ht⟩
  · obtain ⟨j, hj⟩ : ∃ j : Nat, (if i < 0 then i + n else i) = j := by
      split
      · exact ⟨(i + n).toNat, by omega⟩
      · exact ⟨i.toNat, by omega⟩
    have hjn : j < n := by
      split at hj <;> omega
    have hcg : ∀ (f : Nat → Value), (∀ t, t < n → f t = if t = j then mk0 else mv (g t)) → ∀ t, t < n → f t = mv (markAt n i g t) := fun f hf t ht => by
      rw [hf t ht]
      unfold markAt norm
      rw [hj]
      by_cases e : t = j
      · rw [if_pos e, if_pos (by omega)]; rfl
      · rw [if_neg e, if_neg (by omega)]
    rcases hown with hal | ⟨hbs, mb, rfl, hmb, hmap⟩
    · refine (updateArrayIndex_in (some ⟨b, 0, none⟩) n n (fun t => mv (g t)) i j _ _ _ _ ma wr (rd_row hrow) (fun t _ => mv_one _) hi0 hj hjn (by omega) (by omega) (Nat.le_refl _) hal).mono ?_
      rintro e w' ⟨b', rfl, hb', hrow', hk', hal'⟩
      have hsz := hk.size
      refine ⟨_, _, rfl, rfl, hk.trans hk', b', rfl, hrow'.congr (hcg (fun t => if t = j then mk0 else if t < n then mv (g t) else .nilIface) fun t ht => by simp only [if_pos ht]), ?_, .inl (by omega)⟩
      cases ma with
      | none => exact .inl (.inl ⟨rfl, rfl⟩)
      | some mb =>
        refine .inr ⟨by omega, mb, rfl, ha0.lt rfl, ?_⟩
        rcases hal' with ⟨h1, _⟩ | ⟨c, h1, h2⟩
        · cases h1
        · injection h1 with h1
          subst h1
          exact h2
    · refine (updateArrayIndex_own mb b n n n n (fun t => mv (g t)) i j _ _ _ _ wr hrow hi0 hj hjn (by omega) (by omega) (Nat.le_refl _) (by omega) (by omega) hmap).mono ?_
      rintro e w' ⟨rfl, hrow', hk'⟩
      have hkk : Keep (fun x => some mb = some x) w0 w' :=
        ((hk.mono (S' := fun x => some mb = some x ∨ x = b) fun _ _ h => .inl h).trans (hk'.mono fun _ _ h => .inr h)).mono fun x hx h => h.resolve_right (by omega)
      refine ⟨_, _, rfl, rfl, hkk, b, rfl, hrow'.congr (hcg (fun t => if t = j then mk0 else mv (g t)) fun t ht => rfl), .inr ⟨hbs, mb, rfl, hmb, ?_⟩, .inl hbs⟩
      exact mapIs_of_block intKey hmap (hk'.block mb (mapIs_lt intKey hmap) (by omega))
end Go.Proofs.YtlchcilkdenjeaaGreatDoor
