/- The contracts of zzDoc and zzPath: the encoded documents and paths. -/
import Derived.Test.YtdhgaogjdjhokaaGreatDoorSetp
namespace Go.Proofs.YtdhgaogjdjhokaaGreatDoor
open Go.RowKit Go.Gq
set_option maxRecDepth 100000
/-- An int as an any. -/
def ia (z : Int) : Value := .iface 3 (.int .i64 z)
/-- The object of the first k keys: a later key wins. -/
def objL (ss : List ByteArray) (xs : List Int) : Nat → List (ByteArray × Value)
  | 0 => []
  | k + 1 => aput (ss.getD k ByteArray.empty) (ia (xs.getD k 0)) (objL ss xs k)
theorem zzDoc_null (kind : Int) (a0 : Option Addr) (n0 c0 : Nat) (a1 : Option Addr) (n1 c1 : Nat) (w : World) (h1 : (kind == 1) = false) (h2 : (kind == 2) = false) (h3 : (kind == 3) = false) :
    Calls Tryz.prog 27 #[.int .i64 kind, .slice a0 n0 c0, .slice a1 n1 c1] w fun e w' => e = .returned .nilIface ∧ w = w' := by
  go_enter Tryz.func27, Tryz.ntmps27
  go_wp2
  go_ret
  exact ⟨rfl, rfl⟩
theorem zzDoc_int (a0 : Option Addr) (n0 c0 : Nat) (a1 : Option Addr) (n1 c1 : Nat) (w : World) :
    Calls Tryz.prog 27 #[.int .i64 3, .slice a0 n0 c0, .slice a1 n1 c1] w fun e w' => e = .returned (ia 0) ∧ w = w' := by
  go_enter Tryz.func27, Tryz.ntmps27
  go_wp2
  go_ret
  exact ⟨rfl, rfl⟩
set_option maxHeartbeats 400000 in
theorem zzDoc_arr (a0 : Option Addr) (n0 c0 : Nat) (a1 : Option Addr) (n1 c1 : Nat) (xs : List Int) (w : World) (h : Rd w a0 n0 (vi xs)) (hn : n0 ≤ 1048576) :
    Calls Tryz.prog 27 #[.int .i64 1, .slice a0 n0 c0, .slice a1 n1 c1] w fun e w' => ∃ b, e = .returned (.iface 55 (.slice (some ⟨b, 0, none⟩) n0 n0)) ∧ w.heap.size ≤ b ∧
      w'.rowIs b 20 n0 (fun i => ia (xs.getD i 0)) ∧ Kept w w' := by
  have hmk := make_any n0 n0 (Nat.le_refl _) (by omega)
  go_enter Tryz.func27, Tryz.ntmps27
  go_wp2
  obtain ⟨W, HW⟩ : ∃ W : World, W = w.alloc (.cells (madeCells #[Value.nilIface] n0) 20) := ⟨_, rfl⟩
  have hrow : W.rowIs w.heap.size 20 n0 (fun _ => .nilIface) := by rw [HW]; exact World.rowIs_made w _ n0 20
  have hk : Kept w W := by rw [HW]; exact kept_alloc _ _
  rw [← HW]
  clear HW hmk
  go_loopw [8] (fun i wr => ∃ k : Nat, k ≤ n0 ∧ i = .int .i64 k ∧ wr.rowIs w.heap.size 20 n0 (fun j => if j < k then ia (xs.getD j 0) else .nilIface) ∧ Kept w wr) (fun i _ => n0 - (intOf i).toNat)
  case atStart => exact ⟨0, Nat.zero_le _, rfl, by simpa using hrow, hk⟩
  case round =>
    obtain ⟨k, hk, rfl, hrow, hkp⟩ := hrel
    by_cases hlt : k < n0
    · obtain ⟨b, off, rfl, hc⟩ := (h.kept hkp).at hlt
      have hd := hrow.cell hlt
      have hz := hrow.frozen k
      have hset := (hrow.set k (ia (xs.getD k 0))).congr (g := fun j => if j < k + 1 then ia (xs.getD j 0) else .nilIface) (fun j hj => by
        by_cases e : j = k
        · subst e; simp
        · simp only [if_neg e]; by_cases e2 : j < k
          · rw [if_pos e2, if_pos (by omega)]
          · rw [if_neg e2, if_neg (by omega)])
      have hkp2 := hkp.setCell (p := ⟨w.heap.size, k, none⟩) (Nat.le_refl _) (ia (xs.getD k 0))
      obtain ⟨z, hzz⟩ : ∃ z, z = xs.getD k 0 := ⟨_, rfl⟩
      simp only [vi, ← hzz] at hc
      rw [← hzz] at hset hkp2
      have Hset := Lib.hid hset
      have Hkp := Lib.hid hkp2
      simp only [Nat.lt_irrefl, if_false] at hd
      clear hset hkp2 hrow hkp h hzz
      go_wp2
      go_roundw
      case rel => exact ⟨k + 1, by omega, by go_num, Hset.out, Hkp.out⟩
      case measure => simp [intOf]; omega
    · have : k = n0 := by omega
      subst this
      go_wp2
      go_ret
      exact ⟨_, rfl, Nat.le_refl _, hrow.congr fun i hi => by simp [hi], hkp⟩
set_option maxHeartbeats 1000000 in
theorem zzDoc_obj (a0 : Option Addr) (n c0 : Nat) (a1 : Option Addr) (c1 : Nat) (xs : List Int) (ss : List ByteArray) (w : World) (h : Rd w a0 n (vi xs)) (h1 : Rd w a1 n (vs ss)) (hn : n ≤ 1048576) :
    Calls Tryz.prog 27 #[.int .i64 2, .slice a0 n c0, .slice a1 n c1] w fun e w' => ∃ b, e = .returned (.iface 59 (.map (some b))) ∧ w.heap.size ≤ b ∧
      w'.MapIs strKey b (objL ss xs n) ∧ Kept w w' := by
  have hmm : ∀ (z : Int) (W : World), (Instr.makeMap 59 (some (.int .i64 z))).run Tryz.prog W = .ok (.map (some W.heap.size)) (W.alloc (.map #[] 0)) := fun z W => by
    simp [Instr.makeMap, run_underlying Tryz.underlying59, asInt, asIntOf]
  go_enter Tryz.func27, Tryz.ntmps27
  go_wp2
  obtain ⟨W, HW⟩ : ∃ W : World, W = w.alloc (.map #[] 0) := ⟨_, rfl⟩
  have hm : W.MapIs strKey w.heap.size [] := by rw [HW]; exact mapIs_new strKey w
  have hk : Kept w W := by rw [HW]; exact kept_alloc _ _
  rw [← HW]
  clear HW hmm
  go_loopw [10] (fun i wr => ∃ k : Nat, k ≤ n ∧ i = .int .i64 k ∧ wr.MapIs strKey w.heap.size (objL ss xs k) ∧ Kept w wr) (fun i _ => n - (intOf i).toNat)
  case atStart => exact ⟨0, Nat.zero_le _, rfl, hm, hk⟩
  case round =>
    obtain ⟨k, hk, rfl, hm, hkp⟩ := hrel
    by_cases hlt : k < n
    · obtain ⟨b, off, rfl, hc⟩ := (h.kept hkp).at hlt
      obtain ⟨b1, off1, rfl, hc1⟩ := (h1.kept hkp).at hlt
      have hb0 : (0 : Int) ≤ (k : Int) := by omega
      have hb1 : (k : Int) < (n : Int) := by omega
      have hm' : wr.drew.MapIs strKey w.heap.size (objL ss xs k) := mapIs_of_block strKey hm rfl
      obtain ⟨w2, hup, hm2, ho⟩ := run_mapUpdate_assoc strKey Tryz.underlying59 Tryz.underlying9 wr.drew hm' (ss.getD k ByteArray.empty) (ia (xs.getD k 0))
      have hm3 : w2.MapIs strKey w.heap.size (objL ss xs (k + 1)) := hm2
      have hkp2 : Kept w w2 := Below.trans (Below.drew hkp) (ho.below (Nat.le_refl _))
      obtain ⟨z, hzz⟩ : ∃ z, z = xs.getD k 0 := ⟨_, rfl⟩
      obtain ⟨s, hss⟩ : ∃ s, s = ss.getD k ByteArray.empty := ⟨_, rfl⟩
      simp only [vi, vs, ← hzz, ← hss] at hc hc1
      simp only [← hzz, ← hss, strKey, ia] at hup
      have Hm := Lib.hid hm3
      have Hkp := Lib.hid hkp2
      clear hm3 hkp2 hm2 ho hm' hm hkp h h1 hzz hss
      go_wp2_with fail
      go_still_tail 10, (by kernel_rfl)
      go_wp2_with fail
      go_roundw
      case rel => exact ⟨k + 1, by omega, by go_num, Hm.out, Hkp.out⟩
      case measure => simp [intOf]; omega
    · have : k = n := by omega
      subst this
      go_wp2
      go_ret
      exact ⟨_, rfl, Nat.le_refl _, hm, hkp⟩
/-- The paths. -/
theorem zzPath_empty (idx : Int) (key : ByteArray) (w : World) :
    Calls Tryz.prog 29 #[.int .i64 0, .int .i64 idx, .string key] w fun e w' => (∃ a c, e = .returned (.iface 55 (.slice a 0 c))) ∧ Kept w w' := by
  go_enter Tryz.func29, Tryz.ntmps29
  go_wp2
  go_ret
  exact ⟨⟨_, _, rfl⟩, kept_alloc _ _⟩
theorem zzPath_idx (idx : Int) (key : ByteArray) (w : World) :
    Calls Tryz.prog 29 #[.int .i64 1, .int .i64 idx, .string key] w fun e w' => ∃ b, e = .returned (.iface 55 (.slice (some ⟨b, 0, none⟩) 1 1)) ∧ w.heap.size ≤ b ∧ w'.cell? ⟨b, 0, none⟩ = some (ia idx) ∧ Kept w w' := by
  go_enter Tryz.func29, Tryz.ntmps29
  go_wp2
  go_ret
  exact ⟨w.heap.size, rfl, Nat.le_refl _, by simp [ia], kept_alloc _ _⟩
theorem zzPath_key (idx : Int) (key : ByteArray) (w : World) :
    Calls Tryz.prog 29 #[.int .i64 2, .int .i64 idx, .string key] w fun e w' => ∃ b, e = .returned (.iface 55 (.slice (some ⟨b, 0, none⟩) 1 1)) ∧ w.heap.size ≤ b ∧ w'.cell? ⟨b, 0, none⟩ = some (.iface 9 (.string key)) ∧ Kept w w' := by
  go_enter Tryz.func29, Tryz.ntmps29
  go_wp2
  go_ret
  exact ⟨w.heap.size, rfl, Nat.le_refl _, by simp, kept_alloc _ _⟩
theorem zzPath_bad (pkind idx : Int) (key : ByteArray) (w : World) (h0 : (pkind == 0) = false) (h1 : (pkind == 1) = false) (h2 : (pkind == 2) = false) :
    Calls Tryz.prog 29 #[.int .i64 pkind, .int .i64 idx, .string key] w fun e w' => e = .returned (ia idx) ∧ w = w' := by
  go_enter Tryz.func29, Tryz.ntmps29
  go_wp2
  go_ret
  exact ⟨rfl, rfl⟩
end Go.Proofs.YtdhgaogjdjhokaaGreatDoor
