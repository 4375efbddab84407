/- The contracts of updateArrayIndex where the path is at its end and the value is not the marker. -/
import Derived.Test.YtdlmdmpkjhnbmaaGreatDoorObj
namespace Go.Proofs.YtdlmdmpkjhnbmaaGreatDoor
open Go.RowKit Go.Gq
set_option maxRecDepth 100000
theorem sizeAny : (Tryz.prog.info? 20).map (·.size) = some 1 := by kernel_rfl
/-- A box of one cell behind a pointer. -/
theorem updateArrayIndex_neg (va : Option Addr) (L vc : Nat) (i : Int) (pa : Option Addr) (pc : Nat) (dn : TypeId) (vn : Value) (ma : Option Nat) (w : World)
    (hi0 : -9223372036854775808 ≤ i) (hi : i < 0) (hj : i + L < 0) (hL : L ≤ 1073741824)
    (hne : ∀ W, (binOp .eql 20 (.iface dn vn) (.iface 98 (.agg #[]))).run Tryz.prog W = .ok (.bool false) W) :
    Calls Tryz.prog 59 #[.slice va L vc, .int .i64 i, .slice pa 0 pc, .iface dn vn, .map ma] w fun e w' => ∃ a, e = .returned (.tuple #[.nilIface, .iface 145 (.pointer a)]) ∧ Kept w w' := by
  have hc : clampZ i (-1) L = -1 := by unfold clampZ; (repeat' split) <;> omega
  have HC := Lib.hid hc
  clear hc
  go_enter Tryz.func59, Tryz.ntmps59
  go_wp2_with fail
  refine (clamp_any i (-1) L _ hi0 (by omega) (by omega)).mono ?_
  rintro e w' ⟨rfl, rfl⟩
  rw [HC.out]
  go_wp2_with fail
  go_ret2
  exact ⟨_, rfl, kept_alloc _ _⟩
theorem updateArrayIndex_big (va : Option Addr) (L vc : Nat) (i : Int) (pa : Option Addr) (pc : Nat) (dn : TypeId) (vn : Value) (ma : Option Nat) (w : World)
    (hi : 536870912 ≤ i) (hL : L ≤ 1048576)
    (hne : ∀ W, (binOp .eql 20 (.iface dn vn) (.iface 98 (.agg #[]))).run Tryz.prog W = .ok (.bool false) W) :
    Calls Tryz.prog 59 #[.slice va L vc, .int .i64 i, .slice pa 0 pc, .iface dn vn, .map ma] w fun e w' => ∃ a, e = .returned (.tuple #[.nilIface, .iface 148 (.pointer a)]) ∧ Kept w w' := by
  have hc : clampZ i (-1) L = L := by unfold clampZ; (repeat' split) <;> omega
  have HC := Lib.hid hc
  clear hc
  go_enter Tryz.func59, Tryz.ntmps59
  go_wp2_with fail
  refine (clamp_any i (-1) L _ (by omega) (by omega) (by omega)).mono ?_
  rintro e w' ⟨rfl, rfl⟩
  rw [HC.out]
  go_wp2_with fail
  go_ret2
  exact ⟨_, rfl, kept_alloc _ _⟩
set_option maxHeartbeats 1000000 in
/-- An index inside the array: a new array, the place set. -/
theorem updateArrayIndex_in (va : Option Addr) (L vc : Nat) (f : Nat → Value) (i : Int) (j : Nat) (pa : Option Addr) (pc : Nat) (dn : TypeId) (vn : Value) (ma : Option Nat) (w : World)
    (hv : Rd w va L f) (hf : ∀ t, t < L → (f t).oneCell' = true) (hi0 : -9223372036854775808 ≤ i) (hj : (if i < 0 then i + L else i) = j) (hjL : j < L) (hL : L ≤ 1073741824) (hvc : vc ≤ 1073741824) (hLc : L ≤ vc) (ha : AllocIs w ma []) :
    Calls Tryz.prog 59 #[.slice va L vc, .int .i64 i, .slice pa 0 pc, .iface dn vn, .map ma] w fun e w' => ∃ b, e = .returned (.tuple #[.iface 92 (.slice (some ⟨b, 0, none⟩) L vc), .nilIface]) ∧
      w.heap.size ≤ b ∧ w'.rowIs b 20 vc (fun t => if t = j then .iface dn vn else if t < L then f t else .nilIface) ∧ Keep (fun x => ma = some x) w w' ∧ AllocIs w' ma (allocBehind ma (.iface 92 (.slice (some ⟨b, 0, none⟩) L vc))) := by
  have hc : clampZ i (-1) L = j := by
    unfold clampZ
    rw [hj]
    rw [if_neg (by omega), if_pos (by omega)]
  have HC := Lib.hid hc
  clear hc hj
  obtain ⟨b0, off, rfl, hcell⟩ := hv.at hjL
  obtain ⟨x, hx⟩ : ∃ x, x = f j := ⟨_, rfl⟩
  rw [← hx] at hcell
  go_enter Tryz.func59, Tryz.ntmps59
  go_wp2_with fail
  refine (clamp_any i (-1) L _ hi0 (by omega) (by omega)).mono ?_
  rintro e w' ⟨rfl, rfl⟩
  rw [HC.out]
  go_wp2_with fail
  refine (update_empty _ _ _ _ _ _).mono ?_
  rintro e w' ⟨rfl, rfl⟩
  go_wp2_with fail
  refine (allocated_none ma _ _ ha).mono ?_
  rintro e w1 ⟨rfl, hk1⟩
  have ha1 := ha.kept hk1
  have hv1 := hv.kept hk1
  clear hcell
  go_wp2_with fail
  refine (makeArray_any ma L vc vc (by rw [Nat.max_eq_right hLc]) (by omega) w1 ha1 _ _ rfl rfl).mono ?_
  rintro e w2 ⟨b, rfl, hb, hrow, hkp2, ha2⟩
  have hv2 := rd_keepAlloc hv1 hkp2 ha1
  obtain ⟨w3, hcp, hrow3, ho3⟩ := run_copy_rd (P := Tryz.prog) w2 92 92 3 20 b 0 L vc (some ⟨b0, off, none⟩) L vc vc 20 f _ Tryz.underlying92 sizeAny hrow hv2 (Nat.le_refl _) (by omega) hf
  have hd := hrow3.cell (i := j) (by omega)
  have hz := hrow3.frozen j
  have hset := (hrow3.set j (.iface dn vn)).congr (g := fun t => if t = j then .iface dn vn else if t < L then f t else .nilIface) (fun t ht => by
    by_cases e : t = j
    · simp only [if_pos e]
    · simp only [if_neg e]
      by_cases e2 : t < L
      · rw [if_pos ⟨Nat.zero_le _, by omega⟩, if_pos e2]; rfl
      · rw [if_neg (by omega), if_neg e2])
  have hmab : ma ≠ some b := fun e => by have := ha1.lt e; omega
  have hkf : Keep (fun x => ma = some x) w (w3.setCell ⟨b, j, none⟩ (.iface dn vn)) := by
    have k1 : Keep (fun x => ma = some x ∨ x = b) w w3 := ((keep_of_below _ hk1).trans (hkp2.mono fun i _ h => .inl h)).trans (keep_of_only ho3 (.inr rfl))
    have k2 : Keep (fun x => ma = some x ∨ x = b) w3 (w3.setCell ⟨b, j, none⟩ (.iface dn vn)) := ⟨rfl, rfl, rfl, by simp, fun i _ hn => Below.heap_setCell _ _ _ _ fun e => hn (.inr e)⟩
    exact (k1.trans k2).mono fun i hi h => h.resolve_right fun e => by have := hk1.size; omega
  have haf : AllocIs (w3.setCell ⟨b, j, none⟩ (.iface dn vn)) ma (allocBehind ma (.iface 92 (.slice (some ⟨b, 0, none⟩) L vc))) := by
    refine (ha2.keep (keep_of_only (S := (· = b)) ho3 rfl) (fun y e e2 => hmab (by rw [e, e2]))).keep (S := (· = b)) ⟨rfl, rfl, rfl, by simp, fun i _ hn => Below.heap_setCell _ _ _ _ fun e => hn e⟩ (fun y e e2 => hmab (by rw [e, e2]))
  have Hset := Lib.hid hset
  have Hkf := Lib.hid hkf
  have Haf := Lib.hid haf
  have hb1 : w.heap.size ≤ b := Nat.le_trans hk1.size hb
  obtain ⟨y, hy⟩ : ∃ y, w3.cell? ⟨b, j, none⟩ = some y := ⟨_, hd⟩
  clear hset hkf haf hd hrow3 hrow ha2 ho3 hkp2 hv2 hv1 ha1 hv hk1
  go_wp2_with fail
  go_ret2
  exact ⟨b, rfl, hb1, Hset.out, Hkf.out, Haf.out⟩
/-- An index behind the array: a new array, nulls between. -/
theorem updateArrayIndex_pad (va : Option Addr) (L vc : Nat) (f : Nat → Value) (i : Int) (pa : Option Addr) (pc : Nat) (dn : TypeId) (vn : Value) (ma : Option Nat) (w : World)
    (hv : Rd w va L f) (hf : ∀ t, t < L → (f t).oneCell' = true) (hjL : (L : Int) ≤ i) (hj2 : i < 536870912) (hvc : vc ≤ 1073741824) (hLc : L ≤ vc) (ha : AllocIs w ma [])
    (hne : ∀ W, (binOp .eql 20 (.iface dn vn) (.iface 98 (.agg #[]))).run Tryz.prog W = .ok (.bool false) W) :
    Calls Tryz.prog 59 #[.slice va L vc, .int .i64 i, .slice pa 0 pc, .iface dn vn, .map ma] w fun e w' => ∃ b, e = .returned (.tuple #[.iface 92 (.slice (some ⟨b, 0, none⟩) (i.toNat + 1) (max (i.toNat + 1) vc)), .nilIface]) ∧
      w.heap.size ≤ b ∧ w'.rowIs b 20 (max (i.toNat + 1) vc) (fun t => if t = i.toNat then .iface dn vn else if t < L then f t else .nilIface) ∧ Keep (fun x => ma = some x) w w' ∧ AllocIs w' ma (allocBehind ma (.iface 92 (.slice (some ⟨b, 0, none⟩) (i.toNat + 1) (max (i.toNat + 1) vc)))) := by
  have hc : clampZ i (-1) L = L := by unfold clampZ; (repeat' split) <;> omega
  have HC := Lib.hid hc
  clear hc
  obtain ⟨j, hjt⟩ : ∃ j, j = i.toNat := ⟨_, rfl⟩
  rw [← hjt]
  have Hj := Lib.hid hjt
  clear hjt
  obtain ⟨M, hM⟩ : ∃ M, M = max (j + 1) vc := ⟨_, rfl⟩
  have HM1 : Hid (j + 1 ≤ M ∧ L ≤ M ∧ M ≤ 1073741824 ∧ i = j) := by have := Hj.out; show _ ∧ _ ∧ _ ∧ _; omega
  rw [← hM]
  have HM := Lib.hid hM
  clear hM
  go_enter Tryz.func59, Tryz.ntmps59
  go_wp2_with fail
  refine (clamp_any i (-1) L _ (by omega) (by omega) (by omega)).mono ?_
  rintro e w' ⟨rfl, rfl⟩
  rw [HC.out]
  go_wp2_with fail
  refine (update_empty _ _ _ _ _ _).mono ?_
  rintro e w' ⟨rfl, rfl⟩
  go_wp2_with fail
  refine (allocated_none ma _ _ ha).mono ?_
  rintro e w1 ⟨rfl, hk1⟩
  have ha1 := ha.kept hk1
  have hv1 := hv.kept hk1
  go_wp2_with fail
  refine (makeArray_any ma (j + 1) vc M HM.out (by have := HM1.out; omega) w1 ha1 _ _ (by have := HM1.out; omega) rfl).mono ?_
  rintro e w2 ⟨b, rfl, hb, hrow, hkp2, ha2⟩
  have hv2 := rd_keepAlloc hv1 hkp2 ha1
  obtain ⟨w3, hcp, hrow3, ho3⟩ := run_copy_rd (P := Tryz.prog) w2 92 92 3 20 b 0 (j + 1) M va L vc M 20 f _ Tryz.underlying92 sizeAny hrow hv2 (by have := HM1.out; omega) (by have := HM1.out; omega) hf
  have hd := hrow3.cell (i := j) (by have := HM1.out; omega)
  have hz := hrow3.frozen j
  have hset := (hrow3.set j (.iface dn vn)).congr (g := fun t => if t = j then .iface dn vn else if t < L then f t else .nilIface) (fun t ht => by
    by_cases e : t = j
    · simp only [if_pos e]
    · simp only [if_neg e]
      by_cases e2 : t < L
      · rw [if_pos ⟨Nat.zero_le _, by omega⟩, if_pos e2]; rfl
      · rw [if_neg (by omega), if_neg e2])
  have hmab : ma ≠ some b := fun e => by have := ha1.lt e; omega
  have hkf : Keep (fun x => ma = some x) w (w3.setCell ⟨b, j, none⟩ (.iface dn vn)) := by
    have k1 : Keep (fun x => ma = some x ∨ x = b) w w3 := ((keep_of_below _ hk1).trans (hkp2.mono fun i _ h => .inl h)).trans (keep_of_only ho3 (.inr rfl))
    have k2 : Keep (fun x => ma = some x ∨ x = b) w3 (w3.setCell ⟨b, j, none⟩ (.iface dn vn)) := ⟨rfl, rfl, rfl, by simp, fun i _ hn => Below.heap_setCell _ _ _ _ fun e => hn (.inr e)⟩
    exact (k1.trans k2).mono fun i hi h => h.resolve_right fun e => by have := hk1.size; omega
  have haf : AllocIs (w3.setCell ⟨b, j, none⟩ (.iface dn vn)) ma (allocBehind ma (.iface 92 (.slice (some ⟨b, 0, none⟩) (j + 1) M))) := by
    refine (ha2.keep (keep_of_only (S := (· = b)) ho3 rfl) (fun y e e2 => hmab (by rw [e, e2]))).keep (S := (· = b)) ⟨rfl, rfl, rfl, by simp, fun i _ hn => Below.heap_setCell _ _ _ _ fun e => hn e⟩ (fun y e e2 => hmab (by rw [e, e2]))
  have Hset := Lib.hid hset
  have Hkf := Lib.hid hkf
  have Haf := Lib.hid haf
  have hb1 : w.heap.size ≤ b := Nat.le_trans hk1.size hb
  obtain ⟨y, hy⟩ : ∃ y, w3.cell? ⟨b, j, none⟩ = some y := ⟨_, hd⟩
  obtain rfl := Hj.out
  clear hset hkf haf hd hrow3 hrow ha2 ho3 hkp2 hv2 hv1 ha1 hv hk1
  go_wp2_with fail
  go_ret2
  exact ⟨b, rfl, hb1, Hset.out, Hkf.out, Haf.out⟩
end Go.Proofs.YtdlmdmpkjhnbmaaGreatDoor
