/- The contract of delpaths at an object of ints and paths of one key each. -/
import Derived.Test.YtlchcilkdenjeaaGreatDoorOwno
import Derived.Test.YtlchcilkdenjeaaGreatDoorObjs
namespace Go.Proofs.YtlchcilkdenjeaaGreatDoor
open Go.RowKit Go.Gq
attribute [local go_sem] Lib.run_eql_slice_nil
set_option maxRecDepth 100000
/-- The marker at a key that is not there. -/
theorem updateObject_absent (b : Nat) (l : List (ByteArray × Value)) (k : ByteArray) (pa : Option Addr) (pc : Nat) (ma : Option Nat) (w : World) (hm : w.MapIs strKey b l) (hk : lkp k l = none) :
    Calls Tryz.prog 37 #[.map (some b), .string k, .slice pa 0 pc, mk0, .map ma] w fun e w' => e = .returned (.tuple #[.iface 41 (.map (some b)), .nilIface]) ∧ w' = w := by
  have hlk := obj_lookup w (m := some b) (l := l) (.inr ⟨b, rfl, hm⟩) k
  have hnil : ∀ W : World, (binOp .eql 41 (.map (some b)) (.map none)).run Tryz.prog W = .ok (.bool false) W := fun W => eql_map_nil W _ _ _ (some b) Tryz.underlying41
  rw [hk] at hlk
  clear hm hk
  go_enter Tryz.func37, Tryz.ntmps37
  go_wp2_with fail
  go_ret2
  exact ⟨rfl, rfl⟩
set_option maxHeartbeats 1000000 in
/-- The marker at a key that is there: a copy of the allocator's own. -/
theorem updateObject_first (b mb : Nat) (l : List (ByteArray × Value)) (k : ByteArray) (x : Value) (pa : Option Addr) (pc : Nat) (w : World)
    (hb : w.MapIs strKey b l) (hx : lkp k l = some x) (ha : AllocIs w (some mb) []) (hsep : b ≠ mb) (hlen : l.length ≤ 1048576) :
    Calls Tryz.prog 37 #[.map (some b), .string k, .slice pa 0 pc, mk0, .map (some mb)] w fun e w' => ∃ b2 D, e = .returned (.tuple #[.iface 41 (.map (some b2)), .nilIface]) ∧
      w.heap.size ≤ b2 ∧ w'.MapIs strKey b2 D ∧ (∀ y, lkp y D = if y = k then some mk0 else lkp y l) ∧ Keep (fun i => i = mb) w w' ∧ w'.MapIs intKey mb [((0 : Int), .iface 41 (.map (some b2)))] := by
  have hm : ObjIs w (some b) l := .inr ⟨b, rfl, hb⟩
  have hlk := obj_lookup w hm k
  have Hmlt := Lib.hid (mapIs_lt strKey hb)
  have Hm := Lib.hid hm
  rw [hx] at hlk
  clear hm hb hx
  go_enter Tryz.func37, Tryz.ntmps37
  go_wp2_with fail
  refine (update_empty _ _ _ _ _ _).mono ?_
  rintro e w' ⟨rfl, rfl⟩
  go_wp2_with fail
  refine (allocated_none (some mb) _ _ ha).mono ?_
  rintro e w1 ⟨rfl, hk1⟩
  have hm1 := Hm.out.kept hk1
  have ha1 := ha.kept hk1
  have hln := obj_len w1 hm1
  clear hlk
  go_wp2_with fail
  refine (makeObject_any (some mb) _ w1 ha1).mono ?_
  rintro e w2 ⟨b2, rfl, hb2, hm2, hkp2, ha2⟩
  have hm2' : ObjIs w2 (some b) l := hm1.keep hkp2 (fun c e e2 => by injection e with e; injection e2 with e2; omega)
  have hne2 : some b ≠ some b2 := fun e => by injection e with e; have := Hmlt.out; have := hk1.size; omega
  clear hln
  go_wp2_with fail
  refine (copy_obj b2 (some b) l w2 hm2 hm2' hne2).mono ?_
  rintro e w3 ⟨rfl, hkp3, D, hD, hlD⟩
  obtain ⟨w4, hup, hm4, ho4⟩ := run_mapUpdate_assoc strKey Tryz.underlying41 Tryz.underlying9 w3 hD k mk0
  have hab : mb ≠ b2 := fun e => by have := ha1.lt rfl; omega
  have HD := Lib.hid hlD
  clear hlD
  simp only [strKey] at hup
  go_wp2_with fail
  go_ret2
  have hk04 : Keep (fun i => i = mb ∨ i = b2) w w4 := (((keep_of_below _ hk1).trans (hkp2.mono fun i _ h => .inl (by injection h with h; exact h.symm))).trans (hkp3.mono fun i _ h => .inr h)).trans (keep_of_only ho4 (.inr rfl))
  refine ⟨b2, _, rfl, Nat.le_trans hk1.size hb2, hm4, fun y => ?_, ?_, ?_⟩
  · rw [lkp_aput, HD.out]
  · exact hk04.mono fun i hi h => h.resolve_right (fun e => by have := hk1.size; omega)
  · have ha4 := (ha2.keep hkp3 (fun c e e2 => by injection e with e; omega)).keep (keep_of_only (S := (· = b2)) ho4 rfl) (fun c e e2 => by injection e with e; omega)
    rcases ha4 with ⟨h, _⟩ | ⟨c, h1, h2⟩
    · cases h
    · injection h1 with h1
      subst h1
      exact h2
/-- The marker at a key of the allocator's own map. -/
theorem updateObject_own (b mb : Nat) (l : List (ByteArray × Value)) (k : ByteArray) (x : Value) (pa : Option Addr) (pc : Nat) (w : World)
    (hb : w.MapIs strKey b l) (hx : lkp k l = some x) (hm : w.MapIs intKey mb [((0 : Int), .iface 41 (.map (some b)))]) (hlen : l.length ≤ 1048576) :
    Calls Tryz.prog 37 #[.map (some b), .string k, .slice pa 0 pc, mk0, .map (some mb)] w fun e w' => e = .returned (.tuple #[.iface 41 (.map (some b)), .nilIface]) ∧
      w'.MapIs strKey b (aput k mk0 l) ∧ Keep (fun i => i = b) w w' := by
  have hlk := obj_lookup w (m := some b) (l := l) (.inr ⟨b, rfl, hb⟩) k
  rw [hx] at hlk
  have HB := Lib.hid (And.intro hb hm)
  clear hx hb hm
  go_enter Tryz.func37, Tryz.ntmps37
  go_wp2_with fail
  refine (update_empty _ _ _ _ _ _).mono ?_
  rintro e w' ⟨rfl, rfl⟩
  go_wp2_with fail
  refine (allocated_ownmap mb b l _ HB.out.2 HB.out.1 hlen).mono ?_
  rintro e w1 ⟨rfl, hb1, hk1⟩
  obtain ⟨w4, hup, hm4, ho4⟩ := run_mapUpdate_assoc strKey Tryz.underlying41 Tryz.underlying9 w1 hb1 k mk0
  have HF := Lib.hid (And.intro hm4 (hk1.trans (keep_of_only (S := fun i => i = b) ho4 rfl)))
  simp only [strKey] at hup
  clear hlk hb1 hk1 hm4 ho4
  go_wp2_with fail
  go_ret2
  exact ⟨rfl, HF.out⟩
/-- What a key holds, once the first j paths are marked. -/
def gq (d : Nat → ByteArray) (G : ByteArray → Option Value) (j : Nat) (x : ByteArray) : Option Value := if (lastI d j x).isSome = true ∧ (G x).isSome = true then some mk0 else G x
theorem gq_zero (d : Nat → ByteArray) (G : ByteArray → Option Value) (x : ByteArray) : gq d G 0 x = G x := by
  unfold gq lastI; simp
theorem gq_some (d : Nat → ByteArray) (G : ByteArray → Option Value) (j : Nat) (x : ByteArray) : (gq d G j x).isSome = (G x).isSome := by
  unfold gq
  split
  · rename_i h; rw [h.2]; rfl
  · rfl
theorem gq_step (d : Nat → ByteArray) (G : ByteArray → Option Value) (j : Nat) (x : ByteArray) : gq d G (j + 1) x = if x = d j ∧ (G x).isSome = true then some mk0 else gq d G j x := by
  unfold gq
  by_cases e : x = d j
  · have h1 : (lastI d (j + 1) x).isSome = true := by simp only [lastI, if_pos e]; rfl
    by_cases h : (G x).isSome = true
    · rw [if_pos ⟨h1, h⟩, if_pos ⟨e, h⟩]
    · rw [if_neg (fun hh => h hh.2), if_neg (fun hh => h hh.2), if_neg (fun hh => h hh.2)]
  · have h1 : lastI d (j + 1) x = lastI d j x := by simp only [lastI, if_neg e]
    rw [h1, if_neg (fun hh : x = d j ∧ _ => e hh.1)]
/-- Where delpaths stands at an object. -/
def DelStO (mb : Nat) (w0 : World) (b0 : Nat) (_L0 : List (ByteArray × Value)) (G : ByteArray → Option Value) (u : Value) (wr : World) : Prop :=
  Keep (fun x => x = mb) w0 wr ∧ ∃ b l, u = .iface 41 (.map (some b)) ∧ wr.MapIs strKey b l ∧ (∀ x, lkp x l = G x) ∧ l.length ≤ 65536 ∧
    ((AllocIs wr (some mb) [] ∧ b = b0) ∨ (w0.heap.size ≤ b ∧ wr.MapIs intKey mb [((0 : Int), u)]))
theorem update_mark_obj (mb : Nat) (w0 : World) (b0 : Nat) (L0 : List (ByteArray × Value)) (G : ByteArray → Option Value) (d : Nat → ByteArray) (j : Nat) (u : Value) (wr : World) (pb : Nat) (hmb : mb < w0.heap.size) (hsep : b0 ≠ mb)
    (hst : DelStO mb w0 b0 L0 (gq d G j) u wr) (hp : wr.cell? ⟨pb, 0, none⟩ = some (.iface 9 (.string (d j)))) :
    Calls Tryz.prog 34 #[u, .slice (some ⟨pb, 0, none⟩) 1 1, mk0, .map (some mb)] wr (Two fun u' err w' => err = .nilIface ∧ DelStO mb w0 b0 L0 (gq d G (j + 1)) u' w') := by
  obtain ⟨hk, b, l, rfl, hm, hl, hlen, hown⟩ := hst
  refine update_key_obj pb _ (some mb) wr (some b) (d j) hp ?_
  cases hx : lkp (d j) l with
  | none =>
    refine (updateObject_absent b l (d j) _ _ _ wr hm hx).mono ?_
    rintro e w' ⟨rfl, rfl⟩
    refine ⟨_, _, rfl, rfl, hk, b, l, rfl, hm, fun x => ?_, hlen, hown⟩
    rw [gq_step, hl x, if_neg]
    rintro ⟨rfl, hs⟩
    rw [hl] at hx
    rw [← gq_some d G j, hx] at hs
    cases hs
  | some v =>
    have hs : (G (d j)).isSome = true := by rw [← gq_some d G j, ← hl, hx]; rfl
    have hstep : ∀ x, (if x = d j then some mk0 else lkp x l) = gq d G (j + 1) x := fun x => by
      rw [gq_step, hl x]
      by_cases e : x = d j
      · rw [if_pos e, if_pos ⟨e, by rw [e]; exact hs⟩]
      · rw [if_neg e, if_neg (fun h : x = d j ∧ _ => e h.1)]
    have hlen2 : ∀ D, ND D → (∀ x, lkp x D = if x = d j then some mk0 else lkp x l) → D.length ≤ 65536 := fun D hD hlD => by
      have := len_set hD (mapIs_nd strKey hm) hlD
      rw [hx] at this
      simp at this
      omega
    rcases hown with ⟨hal, hb⟩ | ⟨hbs, hmap⟩
    · refine (updateObject_first b mb l (d j) v _ _ wr hm hx hal (by omega) (by omega)).mono ?_
      rintro e w' ⟨b2, D, rfl, hb2, hD, hlD, hk', hal'⟩
      have hsz := hk.size
      exact ⟨_, _, rfl, rfl, hk.trans hk', b2, D, rfl, hD, fun x => by rw [hlD x, hstep x], hlen2 D (mapIs_nd strKey hD) hlD, .inr ⟨by omega, hal'⟩⟩
    · refine (updateObject_own b mb l (d j) v _ _ wr hm hx hmap (by omega)).mono ?_
      rintro e w' ⟨rfl, hD, hk'⟩
      have hlD : ∀ x, lkp x (aput (d j) mk0 l) = if x = d j then some mk0 else lkp x l := fun x => lkp_aput _ _ _ _
      have hkk : Keep (fun x => x = mb) w0 w' := ((hk.mono (S' := fun x => x = mb ∨ x = b) fun _ _ h => .inl h).trans (hk'.mono fun _ _ h => .inr h)).mono fun x hx h => h.resolve_right (by omega)
      exact ⟨_, _, rfl, rfl, hkk, b, _, rfl, hD, fun x => by rw [hlD x, hstep x], hlen2 _ (mapIs_nd strKey hD) hlD, .inr ⟨hbs, mapIs_of_block intKey hmap (hk'.block mb (mapIs_lt intKey hmap) (by omega))⟩⟩
/-- What delpaths answers at an object. -/
def DelAnsO (mb b0 : Nat) (w : World) (H : ByteArray → Option Value) (e : Ending) (w' : World) : Prop :=
  ∃ b D, e = .returned (.iface 41 (.map (some b))) ∧ w'.MapIs strKey b D ∧ (∀ x, lkp x D = sw (H x)) ∧ Keep (fun x => x = mb ∨ x = b0) w w'
theorem del_end_obj (mb : Nat) (w0 : World) (b0 : Nat) (L0 : List (ByteArray × Value)) (H : ByteArray → Option Value) (u : Value) (wr : World) (hst : DelStO mb w0 b0 L0 H u wr) (hH : ∀ x v, H x = some v → ∃ o, v = mv o) :
    Calls Tryz.prog 41 #[u] wr (DelAnsO mb b0 w0 H) := by
  obtain ⟨hk, b, l, rfl, hm, hl, hlen, hown⟩ := hst
  refine (deleteEmpty_obj b l wr hm (fun x v h => hH x v (by rw [← hl x]; exact h))).mono ?_
  rintro e w' ⟨rfl, hk', D, hD, hlD⟩
  refine ⟨b, D, rfl, hD, fun x => by rw [hlD x, hl x], ?_⟩
  have hkk : Keep (fun x => x = mb ∨ x = b) w0 w' := (hk.mono fun _ _ h => .inl h).trans (hk'.mono fun _ _ h => .inr h)
  rcases hown with ⟨_, rfl⟩ | ⟨hbs, _⟩
  · exact hkk
  · exact hkk.mono fun x hx h => .inl (h.resolve_right (by omega))
end Go.Proofs.YtlchcilkdenjeaaGreatDoor
