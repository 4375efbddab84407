/- Cuts of a []any as run equations, and copy into a cut of a row of the call's own. -/
import Derived.Test.YtdlmdmpkjhnbmaaGreatDoorSlices
import Derived.Test.YtdlmdmpkjhnbmaaGreatDoorArr
namespace Go.Proofs.YtdlmdmpkjhnbmaaGreatDoor
open Go.RowKit Go.Gq
theorem sizeOf_any (W : World) : (sizeOf (Tryz.prog.elem 92)).run Tryz.prog W = .ok 1 W := by
  have h : Tryz.prog.elem 92 = 20 := by kernel_rfl
  rw [h]
  have hs := sizeAny
  obtain ⟨i, hi, hz⟩ := Option.map_eq_some_iff.1 hs
  unfold sizeOf typeInfo
  simp [hi, hz, go_sem]
theorem under_any : Tryz.prog.underlying 92 = some (.slice (Tryz.prog.elem 92)) := by kernel_rfl
theorem rd_shift {w : World} {va : Option Addr} {L : Nat} {f : Nat → Value} (h : Rd w va L f) (l : Nat) (hl : l ≤ L) (vc : Nat) (hvc : L ≤ vc) : Rd w (if vc = l then va else va.map (·.add (l * 1))) (L - l) (fun t => f (l + t)) := by
  rcases h with h | ⟨b, off, rfl, h⟩
  · exact .inl (by omega)
  · by_cases e : vc = l
    · exact .inl (by omega)
    · refine .inr ⟨b, off + l, ?_, fun i hi => ?_⟩
      · rw [if_neg e]
        simp [Addr.add]
      · have := h (l + i) (by omega)
        rw [show off + l + i = off + (l + i) by omega]
        exact this
/-- v[:l] -/
theorem cut_hi (va : Option Addr) (L vc : Nat) (li : Int) (l : Nat) (hl : li = l) (h1 : l ≤ L) (h2 : L ≤ vc) (w : World) (f : Nat → Value) (h : Rd w va L f) :
    ∃ va' vc', (∀ W, (Instr.slice 92 (.slice va L vc) none (some (.int .i64 li)) none).run Tryz.prog W = .ok (.slice va' l vc') W) ∧ Rd w va' l f := by
  subst hl
  refine ⟨if vc = 0 then va else va.map (·.add (0 * 1)), vc - 0, fun W => ?_, ?_⟩
  · rw [run_slice_h W 92 va L vc under_any .i64 l (by omega) (by omega), sizeOf_any]
    simp only [Result.andThen, sliced, Int.toNat_natCast, Nat.sub_zero]
  · rcases h with h | ⟨b, off, rfl, h⟩
    · exact .inl (by omega)
    · refine .inr ⟨b, off, ?_, fun i hi => h i (by omega)⟩
      split
      · rfl
      · simp [Addr.add]
/-- v[l:] -/
theorem cut_lo (va : Option Addr) (L vc : Nat) (li : Int) (l m : Nat) (hl : li = l) (hm : m = L - l) (h1 : l ≤ L) (h2 : L ≤ vc) (w : World) (f : Nat → Value) (h : Rd w va L f) :
    ∃ va' vc', (∀ W, (Instr.slice 92 (.slice va L vc) (some (.int .i64 li)) none none).run Tryz.prog W = .ok (.slice va' m vc') W) ∧ Rd w va' m (fun t => f (l + t)) := by
  subst hl hm
  refine ⟨if vc = l then va else va.map (·.add (l * 1)), vc - l, fun W => ?_, rd_shift h l h1 vc h2⟩
  rw [run_slice_l W 92 va L vc under_any .i64 l (by omega) (by omega), sizeOf_any]
  simp only [Result.andThen, sliced, Int.toNat_natCast]
/-- v[l:h], of which nothing is asked. -/
theorem cut_mid (va : Option Addr) (L vc : Nat) (li hi : Int) (l h : Nat) (hl : li = l) (hh : hi = h) (h1 : l ≤ h) (h2 : h ≤ L) (h3 : L ≤ vc) :
    ∃ va' l' vc', ∀ W, (Instr.slice 92 (.slice va L vc) (some (.int .i64 li)) (some (.int .i64 hi)) none).run Tryz.prog W = .ok (.slice va' l' vc') W := by
  subst hl hh
  refine ⟨if vc = l then va else va.map (·.add (l * 1)), h - l, vc - l, fun W => ?_⟩
  rw [run_slice_lh W 92 va L vc under_any .i64 .i64 l h (by omega) (by omega) (by omega), sizeOf_any]
  simp only [Result.andThen, sliced, Int.toNat_natCast]
/-- w[l:], a row of the call's own -/
theorem cut_row (b T : Nat) (li : Int) (l m : Nat) (hl : li = l) (hm : m = T - l) (h1 : l ≤ T) :
    ∃ va' vc', (∀ W, (Instr.slice 92 (.slice (some ⟨b, 0, none⟩) T T) (some (.int .i64 li)) none none).run Tryz.prog W = .ok (.slice va' m vc') W) ∧ (l < T → va' = some ⟨b, l, none⟩) := by
  subst hl hm
  refine ⟨if T = l then some ⟨b, 0, none⟩ else (some ⟨b, 0, none⟩ : Option Addr).map (·.add (l * 1)), T - l, fun W => ?_, fun h => ?_⟩
  · rw [run_slice_l W 92 (some ⟨b, 0, none⟩) T T under_any .i64 l (by omega) (by omega), sizeOf_any]
    simp only [Result.andThen, sliced, Int.toNat_natCast]
  · rw [if_neg (by omega)]
    simp only [Option.map_some, Addr.add]
    simp
    exact fun e => e.symm
/-- copy into a cut of a row, of which nothing need be known where nothing goes over. -/
theorem run_copy_cut (w : World) (b o dLen dCap : Nat) (da va : Option Addr) (L vc : Nat) (M : Nat) (T : TypeId) (f g : Nat → Value)
    (hda : 0 < L → da = some ⟨b, o, none⟩) (hrow : w.rowIs b T M g) (h : Rd w va L f) (hfit : L ≤ dLen) (hfit2 : o + L ≤ M) (h1 : ∀ i, i < L → (f i).oneCell' = true) :
    ∃ w', (Builtin.copy_ #[92, 92] 3 #[.slice da dLen dCap, .slice va L vc]).run Tryz.prog w = .ok (.int .i64 (L : Int)) w' ∧ w'.rowIs b T M (fun t => if o ≤ t ∧ t < o + L then f (t - o) else g t) ∧ Only b w w' := by
  rcases Nat.eq_zero_or_pos L with h0 | h0
  · subst h0
    refine ⟨w, run_copy_none w _ _ _ 20 da va dLen dCap 0 vc Tryz.underlying92 sizeAny (Nat.zero_min _), hrow.congr fun i _ => ?_, ⟨rfl, rfl, rfl, rfl, fun _ _ => rfl⟩⟩
    exact (if_neg (by omega)).symm
  · rw [hda h0]
    exact run_copy_rd (P := Tryz.prog) w _ _ _ 20 b o dLen dCap va L vc M T f g Tryz.underlying92 sizeAny hrow h hfit hfit2 h1
end Go.Proofs.YtdlmdmpkjhnbmaaGreatDoor
