/- The contracts of the laws' own helpers: zzAnyInts, zzIdxPaths, zzAsInts, zzSameInts. -/
import Derived.Test.YtlchcilkdenjeaaGreatDoorDelpb
import Derived.Test.YtlchcilkdenjeaaGreatDoorApp
import Derived.Deep.DeepCutAuto
namespace Go.Proofs.YtlchcilkdenjeaaGreatDoor
open Go.RowKit Go.Gq
set_option maxRecDepth 100000
theorem make_ints (l c : Nat) (hl : l ≤ c) (hc : c ≤ 1073741824) (w : World) :
    (Instr.makeSlice 22 (.int .i64 (l : Int)) (.int .i64 (c : Int))).run Tryz.prog w = .ok (.slice (some ⟨w.heap.size, 0, none⟩) l c) (w.alloc (.cells (madeCells #[.int .i64 0] c) 3)) := by
  obtain ⟨i, hi, hzz⟩ := Option.map_eq_some_iff.1 infoInt
  simp only [Prod.mk.injEq] at hzz
  obtain ⟨hz, hs, hb⟩ := hzz
  have hr := run_make (P := Tryz.prog) w 22 3 i (.int .i64 0) Tryz.underlying22 hi hz .i64 .i64 l c (by omega) (by omega) (by rw [hb]; omega) (by omega)
  simp only [Int.toNat_natCast, hs, Nat.mul_one] at hr
  exact hr
theorem make_bools (l c : Nat) (hl : l ≤ c) (hc : c ≤ 1073741824) (w : World) :
    (Instr.makeSlice 54 (.int .i64 (l : Int)) (.int .i64 (c : Int))).run Tryz.prog w = .ok (.slice (some ⟨w.heap.size, 0, none⟩) l c) (w.alloc (.cells (madeCells #[.bool false] c) 4)) := by
  obtain ⟨i, hi, hzz⟩ := Option.map_eq_some_iff.1 infoBool
  simp only [Prod.mk.injEq] at hzz
  obtain ⟨hz, hs, hb⟩ := hzz
  have hr := run_make (P := Tryz.prog) w 54 4 i (.bool false) Tryz.underlying54 hi hz .i64 .i64 l c (by omega) (by omega) (by rw [hb]; omega) (by omega)
  simp only [Int.toNat_natCast, hs, Nat.mul_one] at hr
  exact hr
set_option maxHeartbeats 1000000 in
theorem zzAnyInts_any (a : Option Addr) (n c : Nat) (z : Nat → Int) (w : World) (h : Rd w a n (fun i => .int .i64 (z i))) (hn : n ≤ 1048576) :
    Calls Tryz.prog 14 #[.slice a n c] w fun e w' => ∃ b, e = .returned (.slice (some ⟨b, 0, none⟩) n n) ∧ w.heap.size ≤ b ∧ w'.rowIs b 20 n (fun i => ib (z i)) ∧ Kept w w' := by
  have hmk := make_any n n (Nat.le_refl _) (by omega)
  go_enter Tryz.func14, Tryz.ntmps14
  go_wp2
  obtain ⟨W, HW⟩ : ∃ W : World, W = w.alloc (.cells (madeCells #[Value.nilIface] n) 20) := ⟨_, rfl⟩
  have hrow : W.rowIs w.heap.size 20 n (fun _ => .nilIface) := by rw [HW]; exact World.rowIs_made w _ n 20
  have hk : Kept w W := by rw [HW]; exact kept_alloc _ _
  rw [← HW]
  clear HW hmk
  go_loopw [4] (fun i wr => ∃ k : Nat, k ≤ n ∧ i = .int .i64 k ∧ wr.rowIs w.heap.size 20 n (fun j => if j < k then ib (z j) else .nilIface) ∧ Kept w wr) (fun i _ => n - (intOf i).toNat)
  case atStart => exact ⟨0, Nat.zero_le _, rfl, by simpa using hrow, hk⟩
  case round =>
    obtain ⟨k, hk, rfl, hrow, hkp⟩ := hrel
    by_cases hlt : k < n
    · obtain ⟨b, off, rfl, hc⟩ := (h.kept hkp).at hlt
      have hd := hrow.cell hlt
      have hz := hrow.frozen k
      have hset := (hrow.set k (ib (z k))).congr (g := fun j => if j < k + 1 then ib (z j) else .nilIface) (fun j hj => by
        by_cases e : j = k
        · subst e; simp
        · simp only [if_neg e]; by_cases e2 : j < k
          · rw [if_pos e2, if_pos (by omega)]
          · rw [if_neg e2, if_neg (by omega)])
      have hkp2 := hkp.setCell (p := ⟨w.heap.size, k, none⟩) (Nat.le_refl _) (ib (z k))
      have Hset := Lib.hid hset
      have Hkp := Lib.hid hkp2
      simp only [Nat.lt_irrefl, if_false] at hd
      clear hset hkp2 hrow hkp h
      go_wp2
      go_roundw
      case rel => exact ⟨k + 1, by omega, by go_num, Hset.out, Hkp.out⟩
      case measure => simp [intOf]; omega
    · have : k = n := by omega
      subst this
      go_wp2
      go_ret
      exact ⟨_, rfl, Nat.le_refl _, hrow.congr fun i hi => by simp [hi], hkp⟩
/-- Paths of one index each. -/
def PathsIs (w : World) (a : Option Addr) (n : Nat) (idx : Nat → Int) (Q : Nat → Nat) : Prop :=
  Rd w a n (fun j => .iface 25 (.slice (some ⟨Q j, 0, none⟩) 1 1)) ∧ ∀ j, j < n → w.cell? ⟨Q j, 0, none⟩ = some (ib (idx j))
theorem PathsIs.kept {w w' : World} {a : Option Addr} {n : Nat} {idx : Nat → Int} {Q : Nat → Nat} (h : PathsIs w a n idx Q) (k : Kept w w') : PathsIs w' a n idx Q := ⟨h.1.kept k, fun j hj => kept_cell k (h.2 j hj)⟩
set_option maxHeartbeats 1000000 in
theorem zzIdxPaths_any (a : Option Addr) (n c : Nat) (z : Nat → Int) (w : World) (h : Rd w a n (fun i => .int .i64 (z i))) (hn : n ≤ 1048576) :
    Calls Tryz.prog 15 #[.slice a n c] w fun e w' => ∃ b Q, e = .returned (.slice (some ⟨b, 0, none⟩) n n) ∧ w.heap.size ≤ b ∧ PathsIs w' (some ⟨b, 0, none⟩) n z Q ∧ Kept w w' := by
  have hmk := make_any n n (Nat.le_refl _) (by omega)
  go_enter Tryz.func15, Tryz.ntmps15
  go_wp2
  obtain ⟨W, HW⟩ : ∃ W : World, W = w.alloc (.cells (madeCells #[Value.nilIface] n) 20) := ⟨_, rfl⟩
  have hrow : W.rowIs w.heap.size 20 n (fun _ => .nilIface) := by rw [HW]; exact World.rowIs_made w _ n 20
  have hk : Kept w W := by rw [HW]; exact kept_alloc _ _
  have hsz : w.heap.size < W.heap.size := by rw [HW]; simp
  rw [← HW]
  clear HW hmk
  go_loopw [4] (fun i wr => ∃ k : Nat, k ≤ n ∧ i = .int .i64 k ∧ Hid (∃ Q : Nat → Nat, wr.rowIs w.heap.size 20 n (fun j => if j < k then .iface 25 (.slice (some ⟨Q j, 0, none⟩) 1 1) else .nilIface) ∧ (∀ j, j < k → wr.cell? ⟨Q j, 0, none⟩ = some (ib (z j)) ∧ w.heap.size < Q j) ∧ w.heap.size < wr.heap.size) ∧ Kept w wr) (fun i _ => n - (intOf i).toNat)
  case atStart => exact ⟨0, Nat.zero_le _, rfl, ⟨fun _ => 0, by simpa using hrow, fun j hj => absurd hj (Nat.not_lt_zero _), hsz⟩, hk⟩
  case round =>
    obtain ⟨k, hk, rfl, HR, hkp⟩ := hrel
    by_cases hlt : k < n
    · obtain ⟨b, off, rfl, hc⟩ := (h.kept hkp).at hlt
      obtain ⟨Q, hrow, hq, hsz⟩ := HR.out
      have hka := kept_alloc wr (.cells #[ib (z k)] 20)
      have hrow1 := rowIs_kept hrow hka
      have hd := hrow1.cell hlt
      have hz := hrow1.frozen k
      have hset := (hrow1.set k (.iface 25 (.slice (some ⟨wr.heap.size, 0, none⟩) 1 1))).congr (g := fun j => if j < k + 1 then .iface 25 (.slice (some ⟨if j = k then wr.heap.size else Q j, 0, none⟩) 1 1) else .nilIface) (fun j hj => by
        by_cases e : j = k
        · subst e; simp
        · simp only [if_neg e]; by_cases e2 : j < k
          · rw [if_pos e2, if_pos (by omega)]
          · rw [if_neg e2, if_neg (by omega)])
      have hnew : (wr.alloc (.cells #[ib (z k)] 20)).rowIs wr.heap.size 20 1 (fun j => [ib (z k)].getD j undef) := row_of (l := [_]) (heap_alloc_new wr _)
      have hnc := (hnew.setOther (a := ⟨w.heap.size, k, none⟩) (show wr.heap.size ≠ w.heap.size by omega) (.iface 25 (.slice (some ⟨wr.heap.size, 0, none⟩) 1 1))).cell (i := 0) (by omega)
      simp only [List.getD_cons_zero] at hnc
      have hkp2 := ((hkp.trans hka).setCell (p := ⟨w.heap.size, k, none⟩) (Nat.le_refl _) (.iface 25 (.slice (some ⟨wr.heap.size, 0, none⟩) 1 1)))
      have HN : Hid (∃ Q : Nat → Nat, ((wr.alloc (.cells #[ib (z k)] 20)).setCell ⟨w.heap.size, k, none⟩ (.iface 25 (.slice (some ⟨wr.heap.size, 0, none⟩) 1 1))).rowIs w.heap.size 20 n (fun j => if j < k + 1 then .iface 25 (.slice (some ⟨Q j, 0, none⟩) 1 1) else .nilIface) ∧
          (∀ j, j < k + 1 → ((wr.alloc (.cells #[ib (z k)] 20)).setCell ⟨w.heap.size, k, none⟩ (.iface 25 (.slice (some ⟨wr.heap.size, 0, none⟩) 1 1))).cell? ⟨Q j, 0, none⟩ = some (ib (z j)) ∧ w.heap.size < Q j) ∧ w.heap.size < ((wr.alloc (.cells #[ib (z k)] 20)).setCell ⟨w.heap.size, k, none⟩ (.iface 25 (.slice (some ⟨wr.heap.size, 0, none⟩) 1 1))).heap.size) := by
        refine ⟨_, hset, fun j hj => ?_, by simp; omega⟩
        by_cases e : j = k
        · subst e
          simp only [if_true]
          exact ⟨hnc, hsz⟩
        · simp only [if_neg e]
          obtain ⟨h1, h2⟩ := hq j (by omega)
          refine ⟨?_, h2⟩
          exact (World.cell?_of_block (a := ⟨Q j, 0, none⟩) (Below.heap_setCell _ ⟨w.heap.size, k, none⟩ _ (Q j) (by show Q j ≠ w.heap.size; omega))).trans (kept_cell hka h1)
      have Hkp := Lib.hid hkp2
      simp only [Nat.lt_irrefl, if_false] at hd
      clear hset hkp2 hrow hrow1 hkp h hq hnew hnc hka HR hsz
      go_wp2
      go_roundw
      case rel => exact ⟨k + 1, by omega, by go_num, HN.out, Hkp.out⟩
      case measure => simp [intOf]; omega
    · have : k = n := by omega
      subst this
      go_wp2
      go_ret
      obtain ⟨Q, hrow, hq, hsz⟩ := HR.out
      exact ⟨_, Q, rfl, Nat.le_refl _, ⟨rd_row (hrow.congr fun i hi => by simp [hi]), fun j hj => (hq j hj).1⟩, hkp⟩
end Go.Proofs.YtlchcilkdenjeaaGreatDoor
