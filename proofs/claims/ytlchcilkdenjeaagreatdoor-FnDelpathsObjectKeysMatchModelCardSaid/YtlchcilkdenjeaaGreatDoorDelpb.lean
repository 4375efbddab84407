/- The contract of delpaths at an array of ints and paths of one index each: the walk. -/
import Derived.Test.YtlchcilkdenjeaaGreatDoorDelp
namespace Go.Proofs.YtlchcilkdenjeaaGreatDoor
open Go.RowKit Go.Gq
set_option maxRecDepth 100000
theorem rd_keep1 {w w' : World} {b : Nat} {v : Value} {ma : Option Nat} {l : List (Int × Value)} (h : w.cell? ⟨b, 0, none⟩ = some v) (k : Keep (fun i => ma = some i) w w') (ha : AllocIs w ma l) : w'.cell? ⟨b, 0, none⟩ = some v := by
  have h1 : Rd w (some ⟨b, 0, none⟩) 1 (fun _ => v) := .inr ⟨b, 0, rfl, fun i hi => by
    have : i = 0 := by omega
    subst this; exact h⟩
  obtain ⟨b2, o2, e, h2⟩ := (rd_keepAlloc h1 k ha).at (k := 0) (by omega)
  injection e with e
  injection e with e1 e2
  subst e1 e2
  exact h2
/-- What delpaths answers at an array. -/
def DelAns (ma : Option Nat) (w : World) (_b0 n : Nat) (_z : Nat → Int) (G : Nat → Option Int) (e : Ending) (w' : World) : Prop :=
  ∃ b h, e = .returned (.iface 25 (.slice (some ⟨b, 0, none⟩) (kl G n).length n)) ∧ w'.rowIs b 20 n h ∧ (∀ s, s < (kl G n).length → h s = ib ((kl G n).getD s 0)) ∧
    Keep (fun x => ma = some x) w w'
theorem kl_all {g : Nat → Option Int} {z : Nat → Int} : ∀ n, (∀ t, t < n → g t = some (z t)) → (kl g n).length = n ∧ ∀ s, s < n → (kl g n).getD s 0 = z s
  | 0, _ => ⟨rfl, fun s hs => absurd hs (Nat.not_lt_zero _)⟩
  | n + 1, h => by
    obtain ⟨h1, h2⟩ := kl_all n (fun t ht => h t (by omega))
    rw [kl_some (h n (by omega))]
    refine ⟨by simp [h1], fun s hs => ?_⟩
    by_cases e : s = n
    · subst e
      have := getD_app_eq (l := kl g s) (z := z s)
      rw [h1] at this
      exact this
    · rw [getD_app_lt (by omega)]; exact h2 s (by omega)
theorem del_end (ma : Option Nat) (w0 : World) (b0 n : Nat) (z : Nat → Int) (G : Nat → Option Int) (u : Value) (wr : World) (hn : n ≤ 1048576) (hv : w0.rowIs b0 20 n (fun t => ib (z t))) (hst : DelSt ma w0 b0 n z G u wr) (_ha0 : AllocIs w0 ma []) :
    Calls Tryz.prog 41 #[u] wr (DelAns ma w0 b0 n z G) := by
  obtain ⟨hk, b, rfl, hrow, hown, hb⟩ := hst
  refine (deleteEmpty_arr b n G wr hn hrow).mono ?_
  rintro e w' ⟨rfl, ⟨h, hr, hs⟩, hk'⟩
  refine ⟨b, h, rfl, hr, hs, ?_⟩
  have hkk : Keep (fun x => ma = some x ∨ x = b) w0 w' := (hk.mono fun _ _ h => .inl h).trans (hk'.mono fun _ _ h => .inr h)
  rcases hb with hb | ⟨rfl, hz⟩
  · exact hkk.mono fun x hx h => h.resolve_right (by omega)
  · refine ⟨hkk.os, hkk.tape, hkk.output, hkk.size, fun i hi hs' => ?_⟩
    by_cases e : i = b
    · subst e
      obtain ⟨h1, h2⟩ := kl_all n hz
      refine rowIs_same hv (hr.congr fun t ht => ?_)
      rw [hs t (by omega), h2 t ht]
    · exact hkk.block i hi fun h => h.elim hs' e
set_option maxHeartbeats 2000000 in
theorem delpaths_arr (b0 n : Nat) (z : Nat → Int) (pa : Option Addr) (m pc : Nat) (Q : Nat → Nat) (idx : Nat → Int) (ma : Option Nat) (w : World) (hv : w.rowIs b0 20 n (fun t => ib (z t))) (hn : n ≤ 1048576) (hm : m ≤ 1048576) (hm0 : 0 < m)
    (hp : Rd w pa m (fun j => .iface 25 (.slice (some ⟨Q j, 0, none⟩) 1 1))) (hq : ∀ j, j < m → w.cell? ⟨Q j, 0, none⟩ = some (ib (idx j))) (hi : ∀ j, j < m → -9223372036854775808 ≤ idx j ∧ idx j ≤ 9223372036854775807) (ha : AllocIs w ma []) :
    Calls Tryz.prog 35 #[.iface 25 (.slice (some ⟨b0, 0, none⟩) n n), .iface 25 (.slice pa m pc), .map ma] w (DelAns ma w b0 n z (gm n z idx m)) := by
  have q0 : ((m : Int) == 0) = false := by simp; omega
  have HV := Lib.hid hv
  have HQ := Lib.hid hq
  have HI := Lib.hid hi
  have HA := Lib.hid ha
  have HP := Lib.hid hp
  clear hv hq hi ha hp
  go_enter Tryz.func35, Tryz.ntmps35
  go_wp2
  obtain ⟨W, HW⟩ : ∃ W : World, W = w.alloc (.cells #[] 57) := ⟨_, rfl⟩
  have hk0 : Kept w W := by rw [HW]; exact kept_alloc _ _
  have haW : AllocIs W ma [] := HA.out.kept hk0
  rw [← HW]
  have hst0 : DelSt ma W b0 n z (gm n z idx 0) (.iface 25 (.slice (some ⟨b0, 0, none⟩) n n)) W := ⟨Keep.refl _ _, b0, rfl, rowIs_kept HV.out hk0, .inl haW, .inr ⟨rfl, fun _ _ => rfl⟩⟩
  have HK0 := Lib.hid hk0
  have HAW := Lib.hid haW
  have HST0 := Lib.hid hst0
  clear hk0 haW hst0
  go_loopw [10, 11, 35] (fun er u i wr => ∃ k : Nat, k ≤ m ∧ i = .int .i64 k ∧ er = .nilIface ∧ Hid (DelSt ma W b0 n z (gm n z idx k) u wr)) (fun _ _ i _ => m - (intOf i).toNat)
  case atStart => exact ⟨0, Nat.zero_le _, rfl, rfl, HST0.out⟩
  case round =>
    obtain ⟨k, hk, rfl, rfl, HS⟩ := hrel
    by_cases hlt : k < m
    · obtain ⟨b1, o1, e1, hc1⟩ := (rd_keepAlloc (HP.out.kept HK0.out) HS.out.1 HAW.out).at hlt
      subst e1
      have hc2 : wr.cell? ⟨Q k, 0, none⟩ = some (ib (idx k)) := rd_keep1 (kept_cell HK0.out (HQ.out k hlt)) HS.out.1 HAW.out
      have HC2 := Lib.hid hc2
      clear hc2
      go_wp2_with fail
      refine (update_mark ma W b0 n z (gm n z idx k) _ wr (Q k) (idx k) hn HS.out HC2.out (HI.out k hlt).1 (HI.out k hlt).2 HAW.out).mono ?_
      rintro e w1 ⟨u', err, rfl, rfl, hst⟩
      have HT : Hid (DelSt ma W b0 n z (gm n z idx (k + 1)) u' w1) := hst
      clear hst HS
      go_wp2
      go_roundw
      case rel => exact ⟨k + 1, by omega, by go_num, rfl, HT.out⟩
      case measure => simp [intOf]; omega
    · have : k = m := by omega
      subst this
      go_wp2_with fail
      refine (del_end ma W b0 n z _ _ wr hn (rowIs_kept HV.out HK0.out) HS.out HAW.out).mono ?_
      rintro e w1 ⟨b, h, rfl, hr, hs, hkk⟩
      have HF : Hid (w1.rowIs b 20 n h ∧ (∀ s, s < (kl (gm n z idx k) n).length → h s = ib ((kl (gm n z idx k) n).getD s 0)) ∧ Keep (fun x => ma = some x) w w1) := ⟨hr, hs, (keep_of_below _ HK0.out).trans hkk⟩
      clear hr hs hkk HS
      go_wp2
      go_ret
      obtain ⟨h1, h2, h3⟩ := HF.out
      exact ⟨b, h, rfl, h1, h2, h3⟩
end Go.Proofs.YtlchcilkdenjeaaGreatDoor
