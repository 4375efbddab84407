/- delpaths at an object and paths of one key each: the loop, and the callers. -/
import Derived.Test.YtlchcilkdenjeaaGreatDoorDelq
namespace Go.Proofs.YtlchcilkdenjeaaGreatDoor
open Go.RowKit Go.Gq
set_option maxRecDepth 100000
/-- Paths of one key each. -/
def KeysIs (w : World) (a : Option Addr) (m : Nat) (d : Nat → ByteArray) (Q : Nat → Nat) : Prop :=
  Rd w a m (fun j => .iface 25 (.slice (some ⟨Q j, 0, none⟩) 1 1)) ∧ ∀ j, j < m → w.cell? ⟨Q j, 0, none⟩ = some (.iface 9 (.string (d j)))
theorem KeysIs.kept {w w' : World} {a : Option Addr} {n : Nat} {d : Nat → ByteArray} {Q : Nat → Nat} (h : KeysIs w a n d Q) (k : Kept w w') : KeysIs w' a n d Q := ⟨h.1.kept k, fun j hj => kept_cell k (h.2 j hj)⟩
theorem keep_mb {w w' : World} {mb : Nat} (h : Keep (fun x => x = mb) w w') : Keep (fun i => some mb = some i) w w' := h.mono fun i _ e => by rw [e]
set_option maxHeartbeats 2000000 in
theorem delpaths_obj (b0 : Nat) (L0 : List (ByteArray × Value)) (pa : Option Addr) (m pc : Nat) (Q : Nat → Nat) (d : Nat → ByteArray) (mb : Nat) (w : World) (hv : w.MapIs strKey b0 L0) (hlen : L0.length ≤ 65536) (hL : ∀ x v, lkp x L0 = some v → ∃ z, v = ib z) (hm : m ≤ 1048576) (hm0 : 0 < m)
    (hp : KeysIs w pa m d Q) (ha : AllocIs w (some mb) []) (hsep : b0 ≠ mb) :
    Calls Tryz.prog 35 #[.iface 41 (.map (some b0)), .iface 25 (.slice pa m pc), .map (some mb)] w (DelAnsO mb b0 w (gq d (fun x => lkp x L0) m)) := by
  have q0 : ((m : Int) == 0) = false := by simp; omega
  have HV := Lib.hid hv
  have HL := Lib.hid hL
  have HA := Lib.hid ha
  have HP := Lib.hid hp
  clear hv ha hp hL
  go_enter Tryz.func35, Tryz.ntmps35
  go_wp2
  obtain ⟨W, HW⟩ : ∃ W : World, W = w.alloc (.cells #[] 57) := ⟨_, rfl⟩
  have hk0 : Kept w W := by rw [HW]; exact kept_alloc _ _
  have haW : AllocIs W (some mb) [] := HA.out.kept hk0
  rw [← HW]
  have hvW : W.MapIs strKey b0 L0 := mapIs_of_block strKey HV.out (hk0.block _ (mapIs_lt strKey HV.out))
  have hst0 : DelStO mb W b0 L0 (gq d (fun x => lkp x L0) 0) (.iface 41 (.map (some b0))) W := ⟨Keep.refl _ _, b0, L0, rfl, hvW, fun x => (gq_zero d (fun x => lkp x L0) x).symm, hlen, .inl ⟨haW, rfl⟩⟩
  have hmbW : mb < W.heap.size := haW.lt rfl
  have HK0 := Lib.hid hk0
  have HAW := Lib.hid haW
  have HST0 := Lib.hid hst0
  clear hk0 haW hst0 hvW
  go_loopw [10, 11, 35] (fun er u i wr => ∃ k : Nat, k ≤ m ∧ i = .int .i64 k ∧ er = .nilIface ∧ Hid (DelStO mb W b0 L0 (gq d (fun x => lkp x L0) k) u wr)) (fun _ _ i _ => m - (intOf i).toNat)
  case atStart => exact ⟨0, Nat.zero_le _, rfl, rfl, HST0.out⟩
  case round =>
    obtain ⟨k, hk, rfl, rfl, HS⟩ := hrel
    by_cases hlt : k < m
    · obtain ⟨b1, o1, e1, hc1⟩ := (rd_keepAlloc (HP.out.1.kept HK0.out) (keep_mb HS.out.1) HAW.out).at hlt
      subst e1
      have hc2 : wr.cell? ⟨Q k, 0, none⟩ = some (.iface 9 (.string (d k))) := rd_keep1 (kept_cell HK0.out (HP.out.2 k hlt)) (keep_mb HS.out.1) HAW.out
      have HC2 := Lib.hid hc2
      clear hc2
      go_wp2_with fail
      refine (update_mark_obj mb W b0 L0 (fun x => lkp x L0) d k _ wr (Q k) hmbW hsep HS.out HC2.out).mono ?_
      rintro e w1 ⟨u', err, rfl, rfl, hst⟩
      have HT : Hid (DelStO mb W b0 L0 (gq d (fun x => lkp x L0) (k + 1)) u' w1) := hst
      clear hst HS
      go_wp2
      go_roundw
      case rel => exact ⟨k + 1, by omega, by go_num, rfl, HT.out⟩
      case measure => simp [intOf]; omega
    · obtain rfl : k = m := by omega
      go_wp2_with fail
      refine (del_end_obj mb W b0 L0 _ _ wr HS.out (fun x v h => by
        unfold gq at h
        split at h
        · injection h with h; exact ⟨none, h.symm⟩
        · obtain ⟨z, hz⟩ := HL.out x v h; exact ⟨some z, hz⟩)).mono ?_
      rintro e w1 ⟨b, D, rfl, hD, hlD, hkk⟩
      have HF := Lib.hid (And.intro hD (And.intro hlD ((keep_of_below _ HK0.out).trans hkk)))
      clear hD hlD hkk HS
      go_wp2
      go_ret
      obtain ⟨h1, h2, h3⟩ := HF.out
      exact ⟨b, D, rfl, h1, h2, h3⟩
/-- What the callers answer: an object without the keys that are named. -/
def DelOutO (b0 : Nat) (L0 : List (ByteArray × Value)) (d : Nat → ByteArray) (m : Nat) (w : World) (e : Ending) (w' : World) : Prop :=
  ∃ b D, e = .returned (.iface 41 (.map (some b))) ∧ w'.MapIs strKey b D ∧ (∀ x, lkp x D = if (lastI d m x).isSome = true then none else lkp x L0) ∧ Keep (fun x => x = b0) w w'
theorem sw_gq (d : Nat → ByteArray) (L0 : List (ByteArray × Value)) (m : Nat) (hL : ∀ x v, lkp x L0 = some v → ∃ z, v = ib z) (x : ByteArray) : sw (gq d (fun x => lkp x L0) m x) = if (lastI d m x).isSome = true then none else lkp x L0 := by
  have hs : sw (lkp x L0) = lkp x L0 := by
    cases h : lkp x L0 with
    | none => exact sw_none
    | some v => obtain ⟨z, rfl⟩ := hL x v h; exact sw_ib z
  unfold gq
  by_cases h1 : (lastI d m x).isSome = true
  · rw [if_pos h1]
    by_cases h2 : (lkp x L0).isSome = true
    · rw [if_pos ⟨h1, h2⟩, sw_mk]
    · rw [if_neg (fun h => h2 h.2), hs]
      cases h : lkp x L0 with
      | none => rfl
      | some v => rw [h] at h2; exact absurd rfl h2
  · rw [if_neg h1, if_neg (fun h => h1 h.1), hs]
section
variable (b0 : Nat) (L0 : List (ByteArray × Value)) (pa : Option Addr) (m pc : Nat) (Q : Nat → Nat) (d : Nat → ByteArray) (w : World) (hv : w.MapIs strKey b0 L0) (hlen : L0.length ≤ 65536) (hL : ∀ x v, lkp x L0 = some v → ∃ z, v = ib z) (hm : m ≤ 1048576) (hp : KeysIs w pa m d Q)
include hv hlen hL hm hp
theorem funcDelpaths_obj :
    Calls Tryz.prog 33 #[.iface 41 (.map (some b0)), .iface 25 (.slice pa m pc)] w (DelOutO b0 L0 d m w) := by
  obtain ⟨hk, ha, hx⟩ := empty_map w
  have hlt := mapIs_lt strKey hv
  have hvW : (w.alloc (.map #[] 0)).MapIs strKey b0 L0 := mapIs_alloc strKey hv _
  have HC : Hid (Calls Tryz.prog 35 #[.iface 41 (.map (some b0)), .iface 25 (.slice pa m pc), .map (some w.heap.size)] (w.alloc (.map #[] 0)) (DelOutO b0 L0 d m w)) := by
    by_cases hm0 : 0 < m
    · refine (delpaths_obj b0 L0 pa m pc Q d w.heap.size _ hvW hlen hL hm hm0 (hp.kept hk) ha (by omega)).mono ?_
      rintro e w' ⟨b, D, rfl, hD, hlD, hkk⟩
      exact ⟨b, D, rfl, hD, fun x => by rw [hlD x, sw_gq d L0 m hL x], ((keep_of_below _ hk).trans hkk).mono fun x hx h => h.resolve_left (by omega)⟩
    · obtain rfl : m = 0 := by omega
      refine (delpaths_none _ pa pc _ _).mono ?_
      rintro e w' ⟨u, rfl, rfl, rfl⟩
      exact ⟨b0, L0, rfl, hvW, fun x => by simp [lastI], keep_of_below _ hk⟩
  clear hv hL hp hk ha hx hvW
  have hmm : ∀ W : World, (Instr.makeMap 39 none).run Tryz.prog W = .ok (.map (some W.heap.size)) (W.alloc (.map #[] 0)) := make_map
  go_enter Tryz.func33, Tryz.ntmps33
  go_wp2_with fail
  refine HC.out.mono ?_
  rintro e w' ⟨b, D, rfl, h1, h2, h3⟩
  have HF := Lib.hid (And.intro h1 (And.intro h2 h3))
  clear h1 h2 h3 HC
  go_wp2_with fail
  go_ret
  exact ⟨b, D, rfl, HF.out⟩
theorem ZZfuncDelpaths_obj :
    Calls Tryz.prog 13 #[.iface 41 (.map (some b0)), .iface 25 (.slice pa m pc)] w (DelOutO b0 L0 d m w) := by
  have HC := Lib.hid (funcDelpaths_obj b0 L0 pa m pc Q d w hv hlen hL hm hp)
  clear hv hL hp
  go_enter Tryz.func13, Tryz.ntmps13
  go_wp2_with fail
  refine HC.out.mono ?_
  rintro e w' ⟨b, D, rfl, h1, h2, h3⟩
  have HF := Lib.hid (And.intro h1 (And.intro h2 h3))
  clear h1 h2 h3 HC
  go_wp2_with fail
  go_ret
  exact ⟨b, D, rfl, HF.out⟩
end
end Go.Proofs.YtlchcilkdenjeaaGreatDoor
