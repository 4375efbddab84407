/- setpath's answer: jq's case table, at every document and path. -/
import Derived.Test.YtdhgaogjdjhokaaGreatDoorAns
namespace Go.Proofs.YtdhgaogjdjhokaaGreatDoor
open Go.RowKit Go.Gq
set_option maxRecDepth 100000
theorem ia_not_marker (n : Int) (W : World) : (binOp .eql 20 (ia n) (.iface 77 (.agg #[]))).run Tryz.prog W = .ok (.bool false) W := by kernel_rfl
theorem Two.mono {Q Q' : Value → Value → World → Prop} {e : Ending} {w : World} (h : Two Q e w) (hq : ∀ u err, Q u err w → Q' u err w) : Two Q' e w := by
  obtain ⟨u, err, h1, h2⟩ := h; exact ⟨u, err, h1, hq _ _ h2⟩
theorem One.mono {R R' : Value → World → Prop} {e : Ending} {w : World} (h : One R e w) (hr : ∀ u, R u w → R' u w) : One R' e w := by
  obtain ⟨u, h1, h2⟩ := h; exact ⟨u, h1, hr _ h2⟩
/-- The answer of setpath. -/
def SetAns (D : Doc) (pkind idx : Int) (key : ByteArray) (n : Int) (ma : Option Nat) (w : World) (u : Value) (w' : World) : Prop :=
  (∃ S, AnsOK D pkind idx key n S ∧ Res S u w') ∧ Keep (fun i => ma = some i) w w'
theorem oneCell_ia (xs : List Int) (t : Nat) : (ia (xs.getD t 0)).oneCell' = true := rfl
/-- An index step into an array (null counts as the empty one). -/
theorem idx_case (v : Value) (va : Option Addr) (L : Nat) (xs : List Int) (idx n : Int) (pb : Nat) (ma : Option Nat) (w : World) (hv : v = .nilIface ∨ ∃ T x, v = .iface T x)
    (hi0 : -9223372036854775808 ≤ idx) (hcap : ¬ (65536 ≤ idx ∧ idx < 536870912)) (hL : L ≤ 65536) (hr : Rd w va L (fun i => ia (xs.getD i 0))) (ha : AllocIs w ma [])
    (hup : ∀ {Q : Value → Value → World → Prop}, Calls Tryz.prog 41 #[.slice va L L, .int .i64 idx, .slice (some ⟨pb, 0, none⟩) 0 0, ia n, .map ma] w (Two Q) → Calls Tryz.prog 37 #[v, .slice (some ⟨pb, 0, none⟩) 1 1, ia n, .map ma] w (Two Q)) :
    Calls Tryz.prog 32 #[v, .iface 55 (.slice (some ⟨pb, 0, none⟩) 1 1), ia n, .map ma] w (One fun u w' => (∃ S, ArrOK L xs idx n S ∧ Res S u w') ∧ Keep (fun i => ma = some i) w w') := by
  by_cases h0 : idx < 0
  · by_cases h1 : idx + L < 0
    · have hU := hup (Q := Err 66 w) ((updateArrayIndex_neg va L L idx (some ⟨pb, 0, none⟩) 0 3 (.int .i64 n) ma w hi0 h0 h1 (by omega) (ia_not_marker n)).mono fun e w' ⟨a, h2, h3⟩ => ⟨_, _, h2, rfl, h3, a, rfl⟩)
      refine (setpath_err 66 (fun v W => by kernel_rfl) v hv 3 (.int .i64 n) _ _ _ ma w hU).mono fun e w' h => h.mono fun u ⟨b, a, h2, h3, h4⟩ => ?_
      exact ⟨⟨.kind 10, by unfold ArrOK; rw [if_pos h0, if_pos h1], .inr (.inr ⟨b, a, h2, .inl ⟨rfl, h3⟩⟩)⟩, keep_of_below _ h4⟩
    · have hU := hup (Q := fun u err w' => err = .nilIface ∧ ((∃ S, ArrOK L xs idx n S ∧ Res S u w') ∧ Keep (fun i => ma = some i) w w'))
        ((updateArrayIndex_in va L L (fun i => ia (xs.getD i 0)) idx (idx + L).toNat (some ⟨pb, 0, none⟩) 0 3 (.int .i64 n) ma w hr (fun t _ => oneCell_ia xs t) hi0 (by rw [if_pos h0]; omega) (by omega) (by omega) (by omega) (Nat.le_refl _) ha).mono fun e w' ⟨b, h2, h3, h4, h5, h6⟩ => ⟨_, _, h2, rfl, ⟨.arr L (fun t => if t = (idx + L).toNat then some n else some (xs.getD t 0)), by unfold ArrOK; rw [if_pos h0, if_neg h1], by omega, b, L, rfl, (rd_row h4).congr fun i hi => by
          by_cases e : i = (idx + L).toNat
          · simp only [if_pos e]; rfl
          · simp only [if_neg e, if_pos hi]; rfl⟩, h5⟩)
      exact setpath_ok v (ia n) _ _ _ ma w hU
  · by_cases h1 : idx < L
    · have hU := hup (Q := fun u err w' => err = .nilIface ∧ ((∃ S, ArrOK L xs idx n S ∧ Res S u w') ∧ Keep (fun i => ma = some i) w w'))
        ((updateArrayIndex_in va L L (fun i => ia (xs.getD i 0)) idx idx.toNat (some ⟨pb, 0, none⟩) 0 3 (.int .i64 n) ma w hr (fun t _ => oneCell_ia xs t) hi0 (by rw [if_neg h0]; omega) (by omega) (by omega) (by omega) (Nat.le_refl _) ha).mono fun e w' ⟨b, h2, h3, h4, h5, h6⟩ => ⟨_, _, h2, rfl, ⟨.arr L (fun t => if t = idx.toNat then some n else some (xs.getD t 0)), by unfold ArrOK; rw [if_neg h0, if_pos h1], by omega, b, L, rfl, (rd_row h4).congr fun i hi => by
          by_cases e : i = idx.toNat
          · simp only [if_pos e]; rfl
          · simp only [if_neg e, if_pos hi]; rfl⟩, h5⟩)
      exact setpath_ok v (ia n) _ _ _ ma w hU
    · by_cases h2 : 536870912 ≤ idx
      · have hU := hup (Q := Err 67 w) ((updateArrayIndex_big va L L idx (some ⟨pb, 0, none⟩) 0 3 (.int .i64 n) ma w h2 (by omega) (ia_not_marker n)).mono fun e w' ⟨a, h2, h3⟩ => ⟨_, _, h2, rfl, h3, a, rfl⟩)
        refine (setpath_err 67 (fun v W => by kernel_rfl) v hv 3 (.int .i64 n) _ _ _ ma w hU).mono fun e w' h => h.mono fun u ⟨b, a, h3, h4, h5⟩ => ?_
        exact ⟨⟨.kind 11, by unfold ArrOK; rw [if_neg h0, if_neg h1, if_pos h2], .inr (.inr ⟨b, a, h3, .inr (.inl ⟨rfl, h4⟩)⟩)⟩, keep_of_below _ h5⟩
      · have hU := hup (Q := fun u err w' => err = .nilIface ∧ ((∃ S, ArrOK L xs idx n S ∧ Res S u w') ∧ Keep (fun i => ma = some i) w w'))
          ((updateArrayIndex_pad va L L (fun i => ia (xs.getD i 0)) idx (some ⟨pb, 0, none⟩) 0 3 (.int .i64 n) ma w hr (fun t _ => oneCell_ia xs t) (by omega) (by omega) (by omega) (Nat.le_refl _) ha (ia_not_marker n)).mono fun e w' ⟨b, h3, h4, h5, h6, h7⟩ => ⟨_, _, h3, rfl, ⟨.arr (idx.toNat + 1) (fun t => if t = idx.toNat then some n else if t < L then some (xs.getD t 0) else none), by unfold ArrOK; rw [if_neg h0, if_neg h1, if_neg h2], by omega, b, _, rfl, by
            have hz : Rd w' (some ⟨b, 0, none⟩) (idx.toNat + 1) (fun t => if t = idx.toNat then ia n else if t < L then ia (xs.getD t 0) else .nilIface) := .inr ⟨b, 0, rfl, fun i hi => by rw [Nat.zero_add]; exact h5.cell (by omega)⟩
            refine hz.congr fun i hi => ?_
            by_cases e : i = idx.toNat
            · simp only [if_pos e]; rfl
            · simp only [if_neg e]
              by_cases e2 : i < L
              · simp only [if_pos e2]; rfl
              · simp only [if_neg e2]; rfl⟩, h6⟩)
        exact setpath_ok v (ia n) _ _ _ ma w hU
/-- A key step into an object (null counts as the empty one). -/
theorem key_case (v : Value) (m : Option Nat) (l : List (ByteArray × Value)) (key : ByteArray) (n : Int) (pb : Nat) (ma : Option Nat) (w : World)
    (hm : ObjIs w m l) (hl : ∀ k v, lkp k l = some v → ∃ z, v = ia z) (hlen : l.length ≤ 65536) (ha : AllocIs w ma []) (hsep : ∀ b, m = some b → ma ≠ some b)
    (hup : ∀ {Q : Value → Value → World → Prop}, Calls Tryz.prog 39 #[.map m, .string key, .slice (some ⟨pb, 0, none⟩) 0 0, ia n, .map ma] w (Two Q) → Calls Tryz.prog 37 #[v, .slice (some ⟨pb, 0, none⟩) 1 1, ia n, .map ma] w (Two Q)) :
    Calls Tryz.prog 32 #[v, .iface 55 (.slice (some ⟨pb, 0, none⟩) 1 1), ia n, .map ma] w (One fun u w' => (∃ l', ND l' ∧ (∀ x, lkp x l' = if x = key then some (ia n) else lkp x l) ∧ Res (.obj l') u w') ∧ Keep (fun i => ma = some i) w w') := by
  have hU := hup (Q := fun u err w' => err = .nilIface ∧ ((∃ l', ND l' ∧ (∀ x, lkp x l' = if x = key then some (ia n) else lkp x l) ∧ Res (.obj l') u w') ∧ Keep (fun i => ma = some i) w w'))
    ((updateObject_any m l key (some ⟨pb, 0, none⟩) 0 3 (.int .i64 n) ma w hm ha hsep (by omega) (ia_not_marker n)).mono fun e w' ⟨b, D, h1, h2, h3, h4, h5, h6⟩ => ⟨_, _, h1, rfl, ⟨D, mapIs_nd strKey h3, h4, fun k v hk => by
      rw [h4] at hk
      by_cases e : k = key
      · rw [if_pos e] at hk; injection hk with hk; exact ⟨n, hk.symm⟩
      · rw [if_neg e] at hk; exact hl k v hk, b, rfl, h3⟩, h5⟩)
  exact setpath_ok v (ia n) _ _ _ ma w hU
theorem key_bad (v : Value) (pb : Nat) (n : Int) (ma : Option Nat) (w : World) (hv : v = .nilIface ∨ ∃ T x, v = .iface T x)
    (hU : Calls Tryz.prog 37 #[v, .slice (some ⟨pb, 0, none⟩) 1 1, ia n, .map ma] w (Two (Err 68 w))) :
    Calls Tryz.prog 32 #[v, .iface 55 (.slice (some ⟨pb, 0, none⟩) 1 1), ia n, .map ma] w (One fun u w' => Res (.kind 12) u w' ∧ Keep (fun i => ma = some i) w w') :=
  (setpath_err 68 (fun v W => by kernel_rfl) v hv 3 (.int .i64 n) _ _ _ ma w hU).mono fun _ _ h => h.mono fun _ ⟨b, a, h2, h3, h4⟩ => ⟨.inr (.inr ⟨b, a, h2, .inr (.inr (.inl ⟨rfl, h3⟩))⟩), keep_of_below _ h4⟩
theorem idx_bad (v : Value) (pb : Nat) (n : Int) (ma : Option Nat) (w : World) (hv : v = .nilIface ∨ ∃ T x, v = .iface T x)
    (hU : Calls Tryz.prog 37 #[v, .slice (some ⟨pb, 0, none⟩) 1 1, ia n, .map ma] w (Two (Err 69 w))) :
    Calls Tryz.prog 32 #[v, .iface 55 (.slice (some ⟨pb, 0, none⟩) 1 1), ia n, .map ma] w (One fun u w' => Res (.kind 13) u w' ∧ Keep (fun i => ma = some i) w w') :=
  (setpath_err 69 (fun v W => by kernel_rfl) v hv 3 (.int .i64 n) _ _ _ ma w hU).mono fun _ _ h => h.mono fun _ ⟨b, a, h2, h3, h4⟩ => ⟨.inr (.inr ⟨b, a, h2, .inr (.inr (.inr ⟨rfl, h3⟩))⟩), keep_of_below _ h4⟩
/-- setpath, at every document and path. -/
theorem setpath_all (D : Doc) (v p : Value) (pkind idx : Int) (key : ByteArray) (n : Int) (ma : Option Nat) (w : World) (hD : DocIs D v w) (hP : PathIs pkind idx key p w) (ha : AllocIs w ma []) (hs : ∀ b, v = .iface 59 (.map (some b)) → ma ≠ some b)
    (hi0 : -9223372036854775808 ≤ idx) (hcap : pkind = 1 → ¬ (65536 ≤ idx ∧ idx < 536870912)) :
    Calls Tryz.prog 32 #[v, p, ia n, .map ma] w (One (SetAns D pkind idx key n ma w)) := by
  have hv := hD.shape
  unfold PathIs at hP
  by_cases p0 : pkind = 0
  · rw [if_pos p0] at hP
    obtain ⟨a, c, rfl⟩ := hP
    refine setpath_ok v (ia n) _ _ _ ma w ((update_empty v (ia n) a c ma w).mono fun e w' ⟨h1, h2⟩ => ⟨_, _, h1, rfl, ⟨.int n, by unfold AnsOK; rw [if_pos p0], rfl⟩, ?_⟩)
    subst h2; exact Keep.refl _ _
  · rw [if_neg p0] at hP
    by_cases p1 : pkind = 1
    · rw [if_pos p1] at hP
      obtain ⟨pb, rfl, hp⟩ := hP
      cases D with
      | null =>
        cases hD
        exact (idx_case .nilIface none 0 [] idx n pb ma w hv hi0 (hcap p1) (by omega) (.inl rfl) ha (fun {Q} h => update_idx_nil pb (ia n) ma w idx hp h)).mono fun _ _ h => h.mono fun u ⟨⟨S, h1, h2⟩, h3⟩ => ⟨⟨S, by unfold AnsOK; rw [if_neg p0, if_pos p1]; exact h1, h2⟩, h3⟩
      | arr L xs =>
        obtain ⟨hL, b, rfl, hrow⟩ := hD
        exact (idx_case _ (some ⟨b, 0, none⟩) L xs idx n pb ma w hv hi0 (hcap p1) hL (rd_row hrow) ha (fun {Q} h => update_idx_arr pb (ia n) ma w _ _ _ idx hp h)).mono fun _ _ h => h.mono fun u ⟨⟨S, h1, h2⟩, h3⟩ => ⟨⟨S, by unfold AnsOK; rw [if_neg p0, if_pos p1]; exact h1, h2⟩, h3⟩
      | obj N ss xs =>
        obtain ⟨hN, b, rfl, hm⟩ := hD
        exact (idx_bad _ pb n ma w hv (update_idx_obj pb (ia n) ma w idx _ hp)).mono fun _ _ h => h.mono fun u ⟨h1, h3⟩ => ⟨⟨.kind 13, by unfold AnsOK; rw [if_neg p0, if_pos p1], h1⟩, h3⟩
      | int =>
        cases hD
        exact (idx_bad _ pb n ma w hv (update_idx_int pb (ia n) ma w idx _ hp)).mono fun _ _ h => h.mono fun u ⟨h1, h3⟩ => ⟨⟨.kind 13, by unfold AnsOK; rw [if_neg p0, if_pos p1], h1⟩, h3⟩
    · rw [if_neg p1] at hP
      by_cases p2 : pkind = 2
      · rw [if_pos p2] at hP
        obtain ⟨pb, rfl, hp⟩ := hP
        cases D with
        | null =>
          cases hD
          exact (key_case .nilIface none [] key n pb ma w (.inl ⟨rfl, rfl⟩) (fun k v h => by cases h) (by simp) ha (fun b e => by cases e) (fun {Q} h => update_key_nil pb (ia n) ma w key hp h)).mono fun _ _ h => h.mono fun u ⟨⟨l', h1, h2, h3⟩, h4⟩ => ⟨⟨.obj l', by unfold AnsOK; rw [if_neg p0, if_neg p1, if_pos p2]; exact ⟨l', rfl, h1, h2⟩, h3⟩, h4⟩
        | arr L xs =>
          obtain ⟨hL, b, rfl, hrow⟩ := hD
          exact (key_bad _ pb n ma w hv (update_key_arr pb (ia n) ma w key _ hp)).mono fun _ _ h => h.mono fun u ⟨h1, h3⟩ => ⟨⟨.kind 12, by unfold AnsOK; rw [if_neg p0, if_neg p1, if_pos p2], h1⟩, h3⟩
        | obj N ss xs =>
          obtain ⟨hN, b, rfl, hm⟩ := hD
          have hlen := objL_len ss xs N
          exact (key_case _ (some b) (objL ss xs N) key n pb ma w (.inr ⟨b, rfl, hm⟩) (objL_ints ss xs N) (by omega) ha (fun c e => by cases e; exact hs b rfl) (fun {Q} h => update_key_obj pb (ia n) ma w (some b) key hp h)).mono fun _ _ h => h.mono fun u ⟨⟨l', h1, h2, h3⟩, h4⟩ => ⟨⟨.obj l', by unfold AnsOK; rw [if_neg p0, if_neg p1, if_pos p2]; exact ⟨l', rfl, h1, h2⟩, h3⟩, h4⟩
        | int =>
          cases hD
          exact (key_bad _ pb n ma w hv (update_key_int pb (ia n) ma w key _ hp)).mono fun _ _ h => h.mono fun u ⟨h1, h3⟩ => ⟨⟨.kind 12, by unfold AnsOK; rw [if_neg p0, if_neg p1, if_pos p2], h1⟩, h3⟩
      · rw [if_neg p2] at hP
        subst hP
        exact (setpath_bad v (.int .i64 idx) (ia n) hv ma w).mono fun _ _ h => h.mono fun u ⟨a, h1, h2⟩ => ⟨⟨.kind 14, by unfold AnsOK; rw [if_neg p0, if_neg p1, if_neg p2], .inr (.inl ⟨rfl, a, h1⟩)⟩, keep_of_below _ h2⟩
end Go.Proofs.YtdhgaogjdjhokaaGreatDoor
