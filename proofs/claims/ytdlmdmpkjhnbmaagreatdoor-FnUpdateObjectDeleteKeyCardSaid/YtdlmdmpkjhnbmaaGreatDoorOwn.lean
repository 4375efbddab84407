/- The contracts of sameStart, sameThing and allocated at an array that the allocator holds. -/
import Derived.Test.YtdlmdmpkjhnbmaaGreatDoorUpdate
import Derived.BigQuiet
import Derived.LaidEqlPtr
import Derived.Deep.QuietTactic
namespace Go.Proofs.YtdlmdmpkjhnbmaaGreatDoor
open Go.RowKit Go.Gq
set_option maxRecDepth 100000
/-- sameStart: two slices of one row, from its first cell. -/
theorem sameStart_same (b l c l' c' : Nat) (w : World) (h0 : 0 < c) (h1 : 0 < c') (h2 : c ≤ 17179869184) (h3 : c' ≤ 17179869184) :
    Calls Tryz.prog 70 #[.slice (some ⟨b, 0, none⟩) l c, .slice (some ⟨b, 0, none⟩) l' c'] w fun e w' => e = .returned (.bool true) ∧ ∃ m, w' = w.drewN m := by
  have q0 : ((c : Int) == 0) = false := by simp; omega
  have q1 : ((c' : Int) == 0) = false := by simp; omega
  have q2 : (1 : Int) ≤ (c : Int) := by omega
  have q3 : (1 : Int) ≤ (c' : Int) := by omega
  obtain ⟨j, hj⟩ : ∃ j, Tryz.prog.info? 20 = some j := Option.isSome_iff_exists.1 (by kernel_rfl)
  have hp : ∀ W : World, (binOp .eql 172 (.pointer (some ⟨b, 0, none⟩)) (.pointer (some ⟨b, 0, none⟩))).run Tryz.prog W = .ok (.bool true) W := fun W => run_eql_ptr_same W _ Tryz.underlying172 hj
  clear hj
  go_enter Tryz.func70, Tryz.ntmps70
  go_wp2_with fail
  go_quiet (fail)
  go_wp2
  go_ret
  exact ⟨rfl, _, rfl⟩
/-- sameThing: the same. -/
theorem sameThing_same (b l c l' c' : Nat) (w : World) (h0 : 0 < c) (h1 : 0 < c') (h2 : c ≤ 17179869184) (h3 : c' ≤ 17179869184) :
    Calls Tryz.prog 60 #[.iface 92 (.slice (some ⟨b, 0, none⟩) l c), .iface 92 (.slice (some ⟨b, 0, none⟩) l' c')] w fun e w' => e = .returned (.bool true) ∧ ∃ m, w' = w.drewN m := by
  go_enter Tryz.func60, Tryz.ntmps60
  go_wp2_with fail
  refine (sameStart_same b l c l' c' w h0 h1 h2 h3).mono ?_
  rintro e w1 ⟨rfl, m, rfl⟩
  go_wp2
  go_ret
  exact ⟨rfl, _, rfl⟩
/-- allocated: the array is the allocator's one entry. -/
theorem allocated_own (mb b l c l' c' : Nat) (w : World) (hm : w.MapIs intKey mb [((0 : Int), .iface 92 (.slice (some ⟨b, 0, none⟩) l' c'))]) (h0 : 0 < c) (h1 : 0 < c') (h2 : c ≤ 17179869184) (h3 : c' ≤ 17179869184) :
    Calls Tryz.prog 46 #[.map (some mb), .iface 92 (.slice (some ⟨b, 0, none⟩) l c)] w fun e w' => e = .returned (.bool true) ∧ Kept w w' := by
  obtain ⟨o, hr, hit⟩ := run_range_assoc intKey (P := Tryz.prog) Tryz.underlying108 w hm
  obtain ⟨w', hn, ho, he⟩ : ∃ w', (∀ ty, (Instr.next (.pointer (some ⟨w.heap.size, 0, none⟩)) false ty).run Tryz.prog (w.alloc o) = .ok (.tuple #[.bool true, .int .i64 0, .iface 92 (.slice (some ⟨b, 0, none⟩) l' c')]) w') ∧ Only w.heap.size (w.alloc o) w' ∧
      (Instr.entry (.pointer (some ⟨w.heap.size, 0, none⟩))).run Tryz.prog w' = .ok (.tuple #[.int .i64 0, .iface 92 (.slice (some ⟨b, 0, none⟩) l' c')]) w' := by
    rcases run_next_assoc intKey (P := Tryz.prog) (w.alloc o) hit with ⟨h, _⟩ | ⟨k, v, w', _, hl, hn, _, ho, he⟩
    · exact absurd (h 0 (by simp)) (by simp)
    · have hkv : k = 0 ∧ v = .iface 92 (.slice (some ⟨b, 0, none⟩) l' c') := by
        rw [lkp] at hl
        split at hl
        · rename_i e
          injection hl with hl
          exact ⟨e, hl.symm⟩
        · cases hl
      obtain ⟨rfl, rfl⟩ := hkv
      exact ⟨w', hn, ho, he⟩
  have hk1 : Kept w (w.alloc o) := kept_alloc w o
  have hk2 : Below w.heap.size (w.alloc o) w' := (keep_of_only (S := fun i => i = w.heap.size) ho rfl).below (B := w.heap.size) (by simp) (fun i e => by omega)
  have HK := Lib.hid (Below.trans hk1 hk2)
  clear hk1 hk2 ho hit
  go_enter Tryz.func46, Tryz.ntmps46
  go_wp2
  obtain ⟨W, HW⟩ : ∃ W : World, W = w.alloc o := ⟨_, rfl⟩
  rw [← HW] at hn ⊢
  clear HW hr
  go_loopw [6] (fun _ wr => wr = W) (fun _ _ => 0)
  case atStart => rfl
  case round =>
    subst hrel
    go_wp2_with fail
    refine (sameThing_same b l c l' c' w' h0 h1 h2 h3).mono ?_
    rintro e w1 ⟨rfl, m, rfl⟩
    go_wp2
    go_ret
    exact ⟨rfl, Kept.trans HK.out (kept_drewN _ _)⟩
set_option maxHeartbeats 1000000 in
/-- updateArrayIndex: in place, in an array that the allocator holds. -/
theorem updateArrayIndex_own (mb b L vc l' c' : Nat) (f : Nat → Value) (i : Int) (j : Nat) (pa : Option Addr) (pc : Nat) (dn : TypeId) (vn : Value) (w : World)
    (hv : w.rowIs b 20 vc f) (hi0 : -9223372036854775808 ≤ i) (hj : (if i < 0 then i + L else i) = j) (hjL : j < L) (hL : L ≤ 1073741824) (hvc : vc ≤ 1073741824) (hLc : L ≤ vc) (hc' : 0 < c') (hc2 : c' ≤ 1073741824)
    (hm : w.MapIs intKey mb [((0 : Int), .iface 92 (.slice (some ⟨b, 0, none⟩) l' c'))]) :
    Calls Tryz.prog 59 #[.slice (some ⟨b, 0, none⟩) L vc, .int .i64 i, .slice pa 0 pc, .iface dn vn, .map (some mb)] w fun e w' => e = .returned (.tuple #[.iface 92 (.slice (some ⟨b, 0, none⟩) L vc), .nilIface]) ∧
      w'.rowIs b 20 vc (fun t => if t = j then .iface dn vn else f t) ∧ Keep (fun x => x = b) w w' := by
  have hc : clampZ i (-1) L = j := by
    unfold clampZ
    rw [hj]
    rw [if_neg (by omega), if_pos (by omega)]
  have HC := Lib.hid hc
  clear hc hj
  obtain ⟨x, hx⟩ : ∃ x, x = f j := ⟨_, rfl⟩
  have hcell := hv.cell (i := j) (by omega)
  rw [← hx] at hcell
  have q1 : (j : Int) < (vc : Int) := by omega
  have q2 : ¬ (j : Int) ≥ (L : Int) := by omega
  go_enter Tryz.func59, Tryz.ntmps59
  go_wp2_with fail
  refine (clamp_any i (-1) L _ hi0 (by omega) (by omega)).mono ?_
  rintro e w' ⟨rfl, rfl⟩
  rw [HC.out]
  go_wp2_with fail
  refine (update_empty _ _ _ _ _ _).mono ?_
  rintro e w' ⟨rfl, rfl⟩
  go_wp2_with fail
  refine (allocated_own mb b L vc l' c' _ hm (by omega) hc' (by omega) (by omega)).mono ?_
  rintro e w1 ⟨rfl, hk1⟩
  have hv1 := rowIs_kept hv hk1
  have hd := hv1.cell (i := j) (by omega)
  have hz := hv1.frozen j
  have hset := (hv1.set j (.iface dn vn)).congr (g := fun t => if t = j then .iface dn vn else f t) (fun t ht => by
    by_cases e : t = j
    · simp only [if_pos e]
    · simp only [if_neg e])
  have hkf : Keep (fun x => x = b) w (w1.setCell ⟨b, j, none⟩ (.iface dn vn)) := (keep_of_below _ hk1).trans ⟨rfl, rfl, rfl, by simp, fun i _ hn => Below.heap_setCell _ _ _ _ fun e => hn e⟩
  have HS := Lib.hid hset
  have HK := Lib.hid hkf
  clear hset hkf hcell hv hv1 hm hk1
  go_wp2_with fail
  go_ret2
  exact ⟨rfl, HS.out, HK.out⟩
end Go.Proofs.YtdlmdmpkjhnbmaaGreatDoor
