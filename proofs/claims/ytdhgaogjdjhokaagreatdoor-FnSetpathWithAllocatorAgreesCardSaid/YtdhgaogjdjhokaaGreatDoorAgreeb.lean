/- zzAgree answers true at two views of the case table's answer. -/
import Derived.Test.YtdhgaogjdjhokaaGreatDoorAgree
namespace Go.Proofs.YtdhgaogjdjhokaaGreatDoor
open Go.RowKit Go.Gq
set_option maxRecDepth 100000
/-- Two answers of one document agree. -/
def VSame : VS → VS → Prop
  | .obj l, .obj l' => ND l ∧ ND l' ∧ ∀ x, lkp x l = lkp x l'
  | S, S' => S = S'
theorem vsame_refl {S : VS} (h : ∀ l, S ≠ .obj l) : VSame S S := by
  cases S with
  | obj l => exact absurd rfl (h l)
  | _ => rfl
theorem arrOK_same {L : Nat} {xs : List Int} {idx n : Int} {S S' : VS} (h : ArrOK L xs idx n S) (h' : ArrOK L xs idx n S') : S = S' ∧ ∀ l, S ≠ .obj l := by
  unfold ArrOK at h h'
  split at h
  · rename_i c1
    rw [if_pos c1] at h'
    split at h
    · rename_i c2
      rw [if_pos c2] at h'
      exact ⟨h.trans h'.symm, fun l e => by rw [h] at e; cases e⟩
    · rename_i c2
      rw [if_neg c2] at h'
      exact ⟨h.trans h'.symm, fun l e => by rw [h] at e; cases e⟩
  · rename_i c1
    rw [if_neg c1] at h'
    split at h
    · rename_i c2
      rw [if_pos c2] at h'
      exact ⟨h.trans h'.symm, fun l e => by rw [h] at e; cases e⟩
    · rename_i c2
      rw [if_neg c2] at h'
      split at h
      · rename_i c3
        rw [if_pos c3] at h'
        exact ⟨h.trans h'.symm, fun l e => by rw [h] at e; cases e⟩
      · rename_i c3
        rw [if_neg c3] at h'
        exact ⟨h.trans h'.symm, fun l e => by rw [h] at e; cases e⟩
theorem ansOK_same {D : Doc} {pkind idx : Int} {key : ByteArray} {n : Int} {S S' : VS} (h : AnsOK D pkind idx key n S) (h' : AnsOK D pkind idx key n S') : VSame S S' := by
  unfold AnsOK at h h'
  have hk : ∀ {T : VS}, S = T → S' = T → (∀ l, T ≠ .obj l) → VSame S S' := fun e e' hn => by subst e e'; exact vsame_refl hn
  have ho : ∀ {g : ByteArray → Option Value}, (∃ l, S = .obj l ∧ ND l ∧ ∀ x, lkp x l = g x) → (∃ l, S' = .obj l ∧ ND l ∧ ∀ x, lkp x l = g x) → VSame S S' := by
    rintro g ⟨l, rfl, h1, h2⟩ ⟨l', rfl, h3, h4⟩
    exact ⟨h1, h3, fun x => by rw [h2, h4]⟩
  have ha : ∀ {L xs}, ArrOK L xs idx n S → ArrOK L xs idx n S' → VSame S S' := fun h h' => by
    obtain ⟨e, hn⟩ := arrOK_same h h'
    subst e
    exact vsame_refl hn
  by_cases p0 : pkind = 0
  · rw [if_pos p0] at h h'
    exact hk h h' (fun l e => by cases e)
  rw [if_neg p0] at h h'
  by_cases p1 : pkind = 1
  · rw [if_pos p1] at h h'
    cases D with
    | null => exact ha h h'
    | arr L xs => exact ha h h'
    | obj => exact hk h h' (fun l e => by cases e)
    | int => exact hk h h' (fun l e => by cases e)
  rw [if_neg p1] at h h'
  by_cases p2 : pkind = 2
  · rw [if_pos p2] at h h'
    cases D with
    | null => exact ho h h'
    | obj N ss xs => exact ho h h'
    | arr => exact hk h h' (fun l e => by cases e)
    | int => exact hk h h' (fun l e => by cases e)
  rw [if_neg p2] at h h'
  exact hk h h' (fun l e => by cases e)
theorem arrOK_len {L : Nat} {xs : List Int} {idx n : Int} {S : VS} (h : ArrOK L xs idx n S) (hL : L ≤ 65536) (hc : ¬ (65536 ≤ idx ∧ idx < 536870912)) : ∀ m g, S = .arr m g → m ≤ 1048576 := by
  intro m g e
  unfold ArrOK at h
  split at h
  · split at h
    · rw [h] at e; cases e
    · rw [h] at e; injection e with e; omega
  · split at h
    · rw [h] at e; injection e with e; omega
    · split at h
      · rw [h] at e; cases e
      · rw [h] at e; injection e with e; omega
theorem ansOK_len {kind : Int} {n0 : Nat} {xs : List Int} {ss : List ByteArray} {pkind idx : Int} {key : ByteArray} {n : Int} {S : VS} (h : AnsOK (docOf kind n0 xs ss) pkind idx key n S) (hL : n0 ≤ 65536) (hc : pkind = 1 → ¬ (65536 ≤ idx ∧ idx < 536870912)) : ∀ m g, S = .arr m g → m ≤ 1048576 := by
  intro m g e
  unfold AnsOK at h
  by_cases p0 : pkind = 0
  · rw [if_pos p0] at h; rw [h] at e; cases e
  rw [if_neg p0] at h
  by_cases p1 : pkind = 1
  · rw [if_pos p1] at h
    unfold docOf at h
    split at h
    · rename_i D hD; exact arrOK_len h (by omega) (hc p1) m g e
    · rename_i D L ys hD
      have : L = n0 := by
        split at hD
        · injection hD with h1; exact h1.symm
        · split at hD
          · cases hD
          · split at hD <;> cases hD
      exact arrOK_len h (by omega) (hc p1) m g e
    · rw [h] at e; cases e
  rw [if_neg p1] at h
  by_cases p2 : pkind = 2
  · rw [if_pos p2] at h
    split at h
    · obtain ⟨l, h, _⟩ := h; rw [h] at e; cases e
    · obtain ⟨l, h, _⟩ := h; rw [h] at e; cases e
    · rw [h] at e; cases e
  rw [if_neg p2] at h
  rw [h] at e; cases e
theorem zzAgree_any (S S' : VS) (ss : List ByteArray) (n1 : Nat) (key : ByteArray) (B B' : Nat) (r r' : Value) (w : World) (hn1 : n1 ≤ 65536) (hs : VSame S S') (hb : ∀ n g, S = .arr n g → n ≤ 1048576) (h : S.Is ss n1 key B r w) (h' : S'.Is ss n1 key B' r' w) :
    Calls Tryz.prog 23 #[r, r'] w (TrueKept w) := by
  have nI : Rd w none 0 (fun i => .int .i64 ((fun _ => 0) i)) := .inl rfl
  have nB : Rd w none 0 (fun i => .bool ((fun _ => false) i)) := .inl rfl
  cases S with
  | kind k =>
    obtain rfl : VS.kind k = S' := by cases S' <;> first | exact hs | cases hs
    rw [show r = _ from h, show r' = _ from h']
    exact zzAgree_true k 0 0 0 0 0 0 0 0 0 0 0 0 _ _ _ _ _ _ _ _ (fun _ => 0) (fun _ => 0) (fun _ => false) (fun _ => false) w (by omega) (by omega) (by omega) (by omega) nI nB nB nI nI nB nB nI
  | int z =>
    obtain rfl : VS.int z = S' := by cases S' <;> first | exact hs | cases hs
    obtain ⟨ai, _, rfl, hI⟩ := h
    obtain ⟨ai', _, rfl, hI'⟩ := h'
    exact zzAgree_true 3 0 1 0 0 1 0 0 0 1 0 0 0 _ _ _ _ _ _ _ _ (fun _ => z) (fun _ => 0) (fun _ => false) (fun _ => false) w (by omega) (by omega) (by omega) (by omega) hI nB nB nI hI' nB nB nI
  | arr n g =>
    obtain rfl : VS.arr n g = S' := by cases S' <;> first | exact hs | cases hs
    have := hb n g rfl
    obtain ⟨ai, an, _, rfl, hI, hB⟩ := h
    obtain ⟨ai', an', _, rfl, hI', hB'⟩ := h'
    exact zzAgree_true 1 0 n n 0 n n 0 0 n n 0 0 _ _ _ _ _ _ _ _ (fun i => (g i).getD 0) (fun _ => 0) (fun i => (g i).isNone) (fun _ => false) w (by omega) (by omega) (by omega) (by omega) hI hB nB nI hI' hB' nB nI
  | obj l =>
    cases S' with
    | obj l' =>
      obtain ⟨h1, h2, h3⟩ := hs
      have hl := same_length h1 h2 fun x => by rw [h3 x]
      obtain ⟨ah, av, _, rfl, hH, hV⟩ := h
      obtain ⟨ah', av', _, rfl, hH', hV'⟩ := h'
      simp only [← h3, ← hl] at hH' hV' ⊢
      exact zzAgree_true 2 l.length 0 0 (n1 + 1) 0 0 (n1 + 1) (n1 + 1) 0 0 (n1 + 1) (n1 + 1) _ _ _ _ _ _ _ _ (fun _ => 0) (fun i => iv (lkp (kk ss n1 key i) l)) (fun _ => false) (fun i => (lkp (kk ss n1 key i) l).isSome) w (by omega) (by omega) (by omega) (by omega) nI nB hH hV nI nB hH' hV'
    | _ => cases hs
end Go.Proofs.YtdhgaogjdjhokaaGreatDoor
