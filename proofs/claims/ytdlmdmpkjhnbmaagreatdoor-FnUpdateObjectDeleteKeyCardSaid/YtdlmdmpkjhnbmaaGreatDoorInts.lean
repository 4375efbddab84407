/- The laws' clones and converters. -/
import Derived.Test.YtdlmdmpkjhnbmaaGreatDoorMark
namespace Go.Proofs.YtdlmdmpkjhnbmaaGreatDoor
open Go.RowKit Go.Gq
attribute [local go_sem] Lib.run_eql_slice_nil
set_option maxRecDepth 100000
def TrueKept (w : World) (e : Ending) (w' : World) : Prop := e = .returned (.bool true) ∧ Kept w w'
/-- A bool, and nothing written. -/
def SomeBool (w : World) (e : Ending) (w' : World) : Prop := ∃ b, e = .returned (.bool b) ∧ w = w'
theorem make_ints (l c : Nat) (hl : l ≤ c) (hc : c ≤ 1073741824) (w : World) :
    (Instr.makeSlice 23 (.int .i64 (l : Int)) (.int .i64 (c : Int))).run Tryz.prog w = .ok (.slice (some ⟨w.heap.size, 0, none⟩) l c) (w.alloc (.cells (madeCells #[.int .i64 0] c) 3)) := by
  obtain ⟨i, hi, hzz⟩ := Option.map_eq_some_iff.1 infoInt
  simp only [Prod.mk.injEq] at hzz
  obtain ⟨hz, hs, hb⟩ := hzz
  have hr := run_make (P := Tryz.prog) w 23 3 i (.int .i64 0) Tryz.underlying23 hi hz .i64 .i64 l c (by omega) (by omega) (by rw [hb]; omega) (by omega)
  simp only [Int.toNat_natCast, hs, Nat.mul_one] at hr
  exact hr
theorem make_bools (l c : Nat) (hl : l ≤ c) (hc : c ≤ 1073741824) (w : World) :
    (Instr.makeSlice 34 (.int .i64 (l : Int)) (.int .i64 (c : Int))).run Tryz.prog w = .ok (.slice (some ⟨w.heap.size, 0, none⟩) l c) (w.alloc (.cells (madeCells #[.bool false] c) 4)) := by
  obtain ⟨i, hi, hzz⟩ := Option.map_eq_some_iff.1 infoBool
  simp only [Prod.mk.injEq] at hzz
  obtain ⟨hz, hs, hb⟩ := hzz
  have hr := run_make (P := Tryz.prog) w 34 4 i (.bool false) Tryz.underlying34 hi hz .i64 .i64 l c (by omega) (by omega) (by rw [hb]; omega) (by omega)
  simp only [Int.toNat_natCast, hs, Nat.mul_one] at hr
  exact hr
theorem zzCloneInts_nil (c : Nat) (w : World) : Calls Tryz.prog 13 #[.slice none 0 c] w fun e w' => e = .returned (.slice none 0 0) ∧ w = w' := by
  go_enter Tryz.func13, Tryz.ntmps13
  go_wp2
  go_ret
  exact ⟨rfl, rfl⟩
set_option maxHeartbeats 1000000 in
theorem zzCloneInts_some (a : Addr) (n c : Nat) (f : Nat → Int) (w : World) (hn : n ≤ 1048576) (h : Rd w (some a) n (fun i => Value.int .i64 (f i))) :
    Calls Tryz.prog 13 #[.slice (some a) n c] w fun e w' => ∃ b, e = .returned (.slice (some ⟨b, 0, none⟩) n n) ∧ w.heap.size ≤ b ∧ w'.rowIs b 3 n (fun i => Value.int .i64 (f i)) ∧ Kept w w' := by
  have hmk := make_ints n n (Nat.le_refl _) (by omega)
  go_enter Tryz.func13, Tryz.ntmps13
  go_wp2
  obtain ⟨W, HW⟩ : ∃ W : World, W = w.alloc (.cells (madeCells #[Value.int .i64 0] n) 3) := ⟨_, rfl⟩
  have hrow : W.rowIs w.heap.size 3 n (fun _ => Value.int .i64 0) := by rw [HW]; exact World.rowIs_made w _ n 3
  have hk : Kept w W := by rw [HW]; exact kept_alloc _ _
  rw [← HW]
  clear HW hmk
  go_loopw [4] (fun i wr => ∃ k : Nat, k ≤ n ∧ i = .int .i64 k ∧ wr.rowIs w.heap.size 3 n (fun j => if j < k then Value.int .i64 (f j) else Value.int .i64 0) ∧ Kept w wr) (fun i _ => n - (intOf i).toNat)
  case atStart => exact ⟨0, Nat.zero_le _, rfl, by simpa using hrow, hk⟩
  case round =>
    obtain ⟨k, hk, rfl, hrow, hkp⟩ := hrel
    by_cases hlt : k < n
    · obtain ⟨b, off, hx, hc⟩ := (h.kept hkp).at hlt
      injection hx with hx
      subst hx
      have hd := hrow.cell hlt
      have hz := hrow.frozen k
      have hset := (hrow.set k (Value.int .i64 (f k))).congr (g := fun j => if j < k + 1 then Value.int .i64 (f j) else Value.int .i64 0) (fun j hj => by
        by_cases e : j = k
        · subst e; simp
        · simp only [if_neg e]; by_cases e2 : j < k
          · rw [if_pos e2, if_pos (by omega)]
          · rw [if_neg e2, if_neg (by omega)])
      have hkp2 := hkp.setCell (p := ⟨w.heap.size, k, none⟩) (Nat.le_refl _) (Value.int .i64 (f k))
      have Hset := Lib.hid hset
      have Hkp := Lib.hid hkp2
      simp only [Nat.lt_irrefl, if_false] at hd
      clear hset hkp2 hrow hkp h
      go_wp2
      go_roundw
      case rel => exact ⟨k + 1, by omega, by go_num, Hset.out, Hkp.out⟩
      case measure => simp [intOf]; omega
    · obtain rfl : k = n := by omega
      go_wp2
      go_ret
      exact ⟨_, rfl, Nat.le_refl _, hrow.congr fun i hi => by simp [hi], hkp⟩
theorem zzIntsToAny_nil (c : Nat) (w : World) : Calls Tryz.prog 36 #[.slice none 0 c] w fun e w' => e = .returned (.slice none 0 0) ∧ w = w' := by
  go_enter Tryz.func36, Tryz.ntmps36
  go_wp2
  go_ret
  exact ⟨rfl, rfl⟩
set_option maxHeartbeats 1000000 in
theorem zzIntsToAny_some (a : Addr) (n c : Nat) (f : Nat → Int) (w : World) (hn : n ≤ 1048576) (h : Rd w (some a) n (fun i => Value.int .i64 (f i))) :
    Calls Tryz.prog 36 #[.slice (some a) n c] w fun e w' => ∃ b, e = .returned (.slice (some ⟨b, 0, none⟩) n n) ∧ w.heap.size ≤ b ∧ w'.rowIs b 20 n (fun i => ib (f i)) ∧ Kept w w' := by
  have hmk := make_any n n (Nat.le_refl _) (by omega)
  go_enter Tryz.func36, Tryz.ntmps36
  go_wp2
  obtain ⟨W, HW⟩ : ∃ W : World, W = w.alloc (.cells (madeCells #[Value.nilIface] n) 20) := ⟨_, rfl⟩
  have hrow : W.rowIs w.heap.size 20 n (fun _ => Value.nilIface) := by rw [HW]; exact World.rowIs_made w _ n 20
  have hk : Kept w W := by rw [HW]; exact kept_alloc _ _
  rw [← HW]
  clear HW hmk
  go_loopw [4] (fun i wr => ∃ k : Nat, k ≤ n ∧ i = .int .i64 k ∧ wr.rowIs w.heap.size 20 n (fun j => if j < k then ib (f j) else Value.nilIface) ∧ Kept w wr) (fun i _ => n - (intOf i).toNat)
  case atStart => exact ⟨0, Nat.zero_le _, rfl, by simpa using hrow, hk⟩
  case round =>
    obtain ⟨k, hk, rfl, hrow, hkp⟩ := hrel
    by_cases hlt : k < n
    · obtain ⟨b, off, hx, hc⟩ := (h.kept hkp).at hlt
      injection hx with hx
      subst hx
      have hd := hrow.cell hlt
      have hz := hrow.frozen k
      have hset := (hrow.set k (ib (f k))).congr (g := fun j => if j < k + 1 then ib (f j) else Value.nilIface) (fun j hj => by
        by_cases e : j = k
        · subst e; simp
        · simp only [if_neg e]; by_cases e2 : j < k
          · rw [if_pos e2, if_pos (by omega)]
          · rw [if_neg e2, if_neg (by omega)])
      have hkp2 := hkp.setCell (p := ⟨w.heap.size, k, none⟩) (Nat.le_refl _) (ib (f k))
      have Hset := Lib.hid hset
      have Hkp := Lib.hid hkp2
      simp only [Nat.lt_irrefl, if_false] at hd
      clear hset hkp2 hrow hkp h
      go_wp2
      go_roundw
      case rel => exact ⟨k + 1, by omega, by go_num, Hset.out, Hkp.out⟩
      case measure => simp [intOf]; omega
    · obtain rfl : k = n := by omega
      go_wp2
      go_ret
      exact ⟨_, rfl, Nat.le_refl _, hrow.congr fun i hi => by simp [hi], hkp⟩
theorem zzAnyToInts_nil (w : World) : Calls Tryz.prog 39 #[.nilIface] w fun e w' => e = .returned (.tuple #[.slice none 0 0, .slice none 0 0, .bool true, .bool true]) ∧ w = w' := by
  go_enter Tryz.func39, Tryz.ntmps39
  go_wp2
  exact bodyPost_ret (v := .tuple #[.slice none 0 0, .slice none 0 0, .bool true, .bool true]) (by simp [results, Tryz.results39, go_sem]) rfl ⟨rfl, rfl⟩
set_option maxHeartbeats 2000000 in
theorem zzAnyToInts_some (a : Addr) (n c : Nat) (f : Nat → Int) (w : World) (hn : n ≤ 1048576) (h : Rd w (some a) n (fun i => ib (f i))) :
    Calls Tryz.prog 39 #[.iface 92 (.slice (some a) n c)] w fun e w' => ∃ b1 b2, e = .returned (.tuple #[.slice (some ⟨b1, 0, none⟩) n n, .slice (some ⟨b2, 0, none⟩) n n, .bool false, .bool true]) ∧ w'.rowIs b1 3 n (fun i => .int .i64 (f i)) ∧ w'.rowIs b2 4 n (fun _ => .bool true) ∧ Kept w w' := by
  have hm1 := make_ints n n (Nat.le_refl _) (by omega)
  have hm2 := make_bools n n (Nat.le_refl _) (by omega)
  go_enter Tryz.func39, Tryz.ntmps39
  go_wp2
  obtain ⟨W, HW⟩ : ∃ W : World, W = (w.alloc (.cells (madeCells #[Value.int .i64 0] n) 3)).alloc (.cells (madeCells #[Value.bool false] n) 4) := ⟨_, rfl⟩
  have hI0 : W.rowIs w.heap.size 3 n (fun _ => .int .i64 0) := by rw [HW]; exact rowIs_kept (World.rowIs_made w _ n 3) (kept_alloc _ _)
  have hB0 : W.rowIs (w.heap.size + 1) 4 n (fun _ => .bool false) := by
    rw [HW]
    have := World.rowIs_made (w.alloc (.cells (madeCells #[Value.int .i64 0] n) 3)) (.bool false) n 4
    simpa using this
  have hk : Kept w W := by rw [HW]; exact (kept_alloc _ _).trans (kept_alloc _ _)
  rw [← HW]
  clear HW hm1 hm2
  go_loopw [10] (fun i wr => ∃ k : Nat, k ≤ n ∧ i = .int .i64 k ∧ Hid (wr.rowIs w.heap.size 3 n (fun j => if j < k then .int .i64 (f j) else .int .i64 0) ∧ wr.rowIs (w.heap.size + 1) 4 n (fun j => if j < k then .bool true else .bool false) ∧ Kept w wr)) (fun i _ => n - (intOf i).toNat)
  case atStart => exact ⟨0, Nat.zero_le _, rfl, by simpa using hI0, by simpa using hB0, hk⟩
  case round =>
    clear hI0 hB0 hk
    obtain ⟨k, hk, rfl, HR⟩ := hrel
    by_cases hlt : k < n
    · obtain ⟨hI, hB, hkp⟩ := HR.out
      obtain ⟨b, off, hx, hc⟩ := (h.kept hkp).at hlt
      injection hx with hx
      subst hx
      have hd := hI.cell hlt
      have hz := hI.frozen k
      have hd2 := hB.cell hlt
      have hz2 := hB.frozen k
      have hset := (hI.set k (.int .i64 (f k))).congr (g := fun j => if j < k + 1 then .int .i64 (f j) else .int .i64 0) (fun j hj => by
        by_cases e : j = k
        · subst e; simp
        · simp only [if_neg e]; by_cases e2 : j < k
          · rw [if_pos e2, if_pos (by omega)]
          · rw [if_neg e2, if_neg (by omega)])
      have hset' := hset.setOther (a := ⟨w.heap.size + 1, k, none⟩) (show w.heap.size ≠ w.heap.size + 1 by omega) (.bool true)
      have hB1 := hB.setOther (a := ⟨w.heap.size, k, none⟩) (show w.heap.size + 1 ≠ w.heap.size by omega) (.int .i64 (f k))
      have hB2 := (hB1.set k (.bool true)).congr (g := fun j => if j < k + 1 then .bool true else .bool false) (fun j hj => by
        by_cases e : j = k
        · subst e; simp
        · simp only [if_neg e]; by_cases e2 : j < k
          · rw [if_pos e2, if_pos (by omega)]
          · rw [if_neg e2, if_neg (by omega)])
      have hkp2 := Below.setCell (hkp.setCell (p := ⟨w.heap.size, k, none⟩) (Nat.le_refl _) (.int .i64 (f k))) (p := ⟨w.heap.size + 1, k, none⟩) (show w.heap.size ≤ w.heap.size + 1 by omega) (.bool true)
      have HN := Lib.hid (And.intro hset' (And.intro hB2 hkp2))
      simp only [Nat.lt_irrefl, if_false] at hd hd2
      clear hset hset' hB1 hB2 hkp2 hI hB hkp h HR
      go_wp2
      go_roundw
      case rel => exact ⟨k + 1, by omega, by go_num, HN.out⟩
      case measure => simp [intOf]; omega
    · obtain rfl : k = n := by omega
      obtain ⟨hI, hB, hkp⟩ := HR.out
      go_wp2
      exact bodyPost_ret (v := .tuple #[.slice (some ⟨w.heap.size, 0, none⟩) k k, .slice (some ⟨w.heap.size + 1, 0, none⟩) k k, .bool false, .bool true]) (by simp [results, Tryz.results39, go_sem]) rfl ⟨_, _, rfl, hI.congr fun i hi => by simp [hi], hB.congr fun i hi => by simp [hi], hkp⟩
theorem rd_at {w : World} {b n : Nat} {f : Nat → Value} (h : Rd w (some ⟨b, 0, none⟩) n f) {k : Nat} (hk : k < n) : w.cell? ⟨b, k, none⟩ = some (f k) := by
  obtain ⟨b', off, e, hc⟩ := h.at hk
  injection e with e
  injection e with e1 e2
  subst e1 e2
  rw [Nat.zero_add] at hc
  exact hc
/-! ### What is kept, where one place is marked. -/
theorem kl_all {g : Nat → Option Int} {z : Nat → Int} : ∀ n, (∀ t, t < n → g t = some (z t)) → (kl g n).length = n ∧ ∀ s, s < n → (kl g n).getD s 0 = z s
  | 0, _ => ⟨rfl, fun s hs => absurd hs (Nat.not_lt_zero _)⟩
  | n + 1, h => by
    obtain ⟨h1, h2⟩ := kl_all n (fun t ht => h t (by omega))
    rw [kl_some (h n (by omega))]
    refine ⟨by simp [h1], fun s hs => ?_⟩
    by_cases e : s = n
    · subst e
      have := getD_app_eq (l := kl g s) (z := z s)
      rw [h1] at this
      exact this
    · rw [getD_app_lt (by omega)]; exact h2 s (by omega)
/-- The places s .. e are marked: what is kept are those before s and those from e on. -/
theorem kl_gap {g : Nat → Option Int} {z : Nat → Int} {s e : Nat} (hse : s ≤ e) (h1 : ∀ t, t < s → g t = some (z t)) (h2 : ∀ t, s ≤ t → t < e → g t = none) (h3 : ∀ t, e ≤ t → g t = some (z t)) : ∀ n, (n ≤ s → (kl g n).length = n ∧ ∀ i, i < n → (kl g n).getD i 0 = z i) ∧ (s ≤ n → n ≤ e → (kl g n).length = s ∧ ∀ i, i < s → (kl g n).getD i 0 = z i) ∧ (e ≤ n → (kl g n).length = n - (e - s) ∧ ∀ i, i < n - (e - s) → (kl g n).getD i 0 = if i < s then z i else z (i + (e - s)))
  | 0 => by
    refine ⟨fun _ => ⟨rfl, fun i hi => absurd hi (Nat.not_lt_zero _)⟩, fun h _ => ?_, fun h => ?_⟩
    · obtain rfl : s = 0 := by omega
      exact ⟨rfl, fun i hi => absurd hi (Nat.not_lt_zero _)⟩
    · exact ⟨by simp [kl], fun i hi => by omega⟩
  | n + 1 => by
    obtain ⟨a, b, c⟩ := kl_gap hse h1 h2 h3 n
    refine ⟨fun hn => ?_, fun hs he => ?_, fun he => ?_⟩
    · exact kl_all (n + 1) (fun t ht => h1 t (by omega))
    · by_cases e0 : s = n + 1
      · subst e0
        exact kl_all (n + 1) (fun t ht => h1 t (by omega))
      · rw [kl_none (h2 n (by omega) (by omega))]
        exact b (by omega) (by omega)
    · by_cases e0 : e = n + 1
      · subst e0
        by_cases e1 : s = n + 1
        · subst e1
          obtain ⟨p, q⟩ := kl_all (g := g) (z := z) (n + 1) (fun t ht => h1 t (by omega))
          refine ⟨by omega, fun i hi => ?_⟩
          rw [if_pos (by omega)]
          exact q i (by omega)
        · rw [kl_none (h2 n (by omega) (by omega))]
          obtain ⟨p, q⟩ := b (by omega) (by omega)
          refine ⟨by omega, fun i hi => ?_⟩
          rw [if_pos (by omega)]
          exact q i (by omega)
      · obtain ⟨p, q⟩ := c (by omega)
        rw [kl_some (h3 n (by omega))]
        refine ⟨by simp [p]; omega, fun i hi => ?_⟩
        by_cases e1 : i = n - (e - s)
        · have := getD_app_eq (l := kl g n) (z := z n)
          rw [p] at this
          rw [e1, this, if_neg (by omega), show n - (e - s) + (e - s) = n by omega]
        · rw [getD_app_lt (by omega)]
          exact q i (by omega)
end Go.Proofs.YtdlmdmpkjhnbmaaGreatDoor
