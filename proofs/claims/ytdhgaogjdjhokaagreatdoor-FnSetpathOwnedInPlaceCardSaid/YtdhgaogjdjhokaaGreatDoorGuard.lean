/- The contracts of the laws' guards and clones: zzClone*, zzBytes_*, zzPremise. -/
import Derived.Test.YtdhgaogjdjhokaaGreatDoorSame
namespace Go.Proofs.YtdhgaogjdjhokaaGreatDoor
open Go.RowKit Go.Gq
attribute [local go_sem] Lib.run_eql_slice_nil
set_option maxRecDepth 100000
theorem make_strs (n : Nat) (hn : n ≤ 1048576) (w : World) :
    (Instr.makeSlice 23 (.int .i64 (n : Int)) (.int .i64 (n : Int))).run Tryz.prog w = .ok (.slice (some ⟨w.heap.size, 0, none⟩) n n) (w.alloc (.cells (madeCells #[.string ⟨#[]⟩] n) 9)) :=
  run_make_row' (P := Tryz.prog) 23 9 _ _ Tryz.underlying23 infoStr rfl .i64 .i64 n (by omega) (by omega) w
set_option maxHeartbeats 1000000 in
theorem zzCloneInts_any (a : Option Addr) (n cap : Nat) (f : Nat → Int) (w : World) (hn : n ≤ 1048576) (h : Rd w a n (fun i => Value.int .i64 (f i))) :
    Calls Tryz.prog 12 #[.slice a n cap] w fun e w' => ∃ a', e = .returned (.slice a' n n) ∧ Rd w' a' n (fun i => Value.int .i64 (f i)) ∧ Kept w w' := by
  cases a with
  | none =>
    have hn0 : n = 0 := by
      rcases h with h | ⟨b, off, e, h⟩
      · exact h
      · cases e
    subst hn0
    go_enter Tryz.func12, Tryz.ntmps12
    go_wp2
    go_ret
    exact ⟨none, rfl, .inl rfl, Below.refl _ _⟩
  | some x =>
    have hmk' := make_ints n (by omega)
    go_enter Tryz.func12, Tryz.ntmps12
    go_wp2
    obtain ⟨W, HW⟩ : ∃ W : World, W = w.alloc (.cells (madeCells #[.int .i64 0] n) 3) := ⟨_, rfl⟩
    have hrow : W.rowIs w.heap.size 3 n (fun _ => .int .i64 0) := by rw [HW]; exact row_made (heap_alloc_new w _)
    have hk : Kept w W := by rw [HW]; exact kept_alloc _ _
    rw [← HW]
    clear HW hmk'
    go_loopw [4] (fun i wr => ∃ k : Nat, k ≤ n ∧ i = .int .i64 k ∧ wr.rowIs w.heap.size 3 n (fun j => if j < k then Value.int .i64 (f j) else .int .i64 0) ∧ Kept w wr) (fun i _ => n - (intOf i).toNat)
    case atStart => exact ⟨0, Nat.zero_le _, rfl, by simpa using hrow, hk⟩
    case round =>
      obtain ⟨k, hk, rfl, hrow, hkp⟩ := hrel
      by_cases hlt : k < n
      · obtain ⟨b, off, hx, hc⟩ := (h.kept hkp).at hlt
        injection hx with hx
        subst hx
        have hd := hrow.cell hlt
        have hz := hrow.frozen k
        have hset := (hrow.set k (Value.int .i64 (f k))).congr (g := fun j => if j < k + 1 then Value.int .i64 (f j) else .int .i64 0) (fun j hj => by
          by_cases e : j = k
          · subst e; simp
          · simp only [if_neg e]; by_cases e2 : j < k
            · rw [if_pos e2, if_pos (by omega)]
            · rw [if_neg e2, if_neg (by omega)])
        have hkp2 := hkp.setCell (p := ⟨w.heap.size, k, none⟩) (Nat.le_refl _) (Value.int .i64 (f k))
        have Hset := Lib.hid hset
        have Hkp := Lib.hid hkp2
        simp only [Nat.lt_irrefl, if_false] at hd
        clear hset hkp2 hrow hkp h
        go_wp2
        go_roundw
        case rel => exact ⟨k + 1, by omega, by go_num, Hset.out, Hkp.out⟩
        case measure => simp [intOf]; omega
      · have : k = n := by omega
        subst this
        go_wp2
        go_ret
        refine ⟨_, rfl, rd_row (hrow.congr fun i hi => by simp [hi]), hkp⟩
set_option maxHeartbeats 1000000 in
theorem zzCloneStrings_any (a : Option Addr) (n cap : Nat) (f : Nat → ByteArray) (w : World) (hn : n ≤ 1048576) (h : Rd w a n (fun i => Value.string (f i))) :
    Calls Tryz.prog 13 #[.slice a n cap] w fun e w' => ∃ a', e = .returned (.slice a' n n) ∧ Rd w' a' n (fun i => Value.string (f i)) ∧ Kept w w' := by
  cases a with
  | none =>
    have hn0 : n = 0 := by
      rcases h with h | ⟨b, off, e, h⟩
      · exact h
      · cases e
    subst hn0
    go_enter Tryz.func13, Tryz.ntmps13
    go_wp2
    go_ret
    exact ⟨none, rfl, .inl rfl, Below.refl _ _⟩
  | some x =>
    have hmk' := make_strs n (by omega)
    go_enter Tryz.func13, Tryz.ntmps13
    go_wp2
    obtain ⟨W, HW⟩ : ∃ W : World, W = w.alloc (.cells (madeCells #[.string ⟨#[]⟩] n) 9) := ⟨_, rfl⟩
    have hrow : W.rowIs w.heap.size 9 n (fun _ => .string ⟨#[]⟩) := by rw [HW]; exact row_made (heap_alloc_new w _)
    have hk : Kept w W := by rw [HW]; exact kept_alloc _ _
    rw [← HW]
    clear HW hmk'
    go_loopw [4] (fun i wr => ∃ k : Nat, k ≤ n ∧ i = .int .i64 k ∧ wr.rowIs w.heap.size 9 n (fun j => if j < k then Value.string (f j) else .string ⟨#[]⟩) ∧ Kept w wr) (fun i _ => n - (intOf i).toNat)
    case atStart => exact ⟨0, Nat.zero_le _, rfl, by simpa using hrow, hk⟩
    case round =>
      obtain ⟨k, hk, rfl, hrow, hkp⟩ := hrel
      by_cases hlt : k < n
      · obtain ⟨b, off, hx, hc⟩ := (h.kept hkp).at hlt
        injection hx with hx
        subst hx
        have hd := hrow.cell hlt
        have hz := hrow.frozen k
        have hset := (hrow.set k (Value.string (f k))).congr (g := fun j => if j < k + 1 then Value.string (f j) else .string ⟨#[]⟩) (fun j hj => by
          by_cases e : j = k
          · subst e; simp
          · simp only [if_neg e]; by_cases e2 : j < k
            · rw [if_pos e2, if_pos (by omega)]
            · rw [if_neg e2, if_neg (by omega)])
        have hkp2 := hkp.setCell (p := ⟨w.heap.size, k, none⟩) (Nat.le_refl _) (Value.string (f k))
        have Hset := Lib.hid hset
        have Hkp := Lib.hid hkp2
        simp only [Nat.lt_irrefl, if_false] at hd
        clear hset hkp2 hrow hkp h
        go_wp2
        go_roundw
        case rel => exact ⟨k + 1, by omega, by go_num, Hset.out, Hkp.out⟩
        case measure => simp [intOf]; omega
      · have : k = n := by omega
        subst this
        go_wp2
        go_ret
        refine ⟨_, rfl, rd_row (hrow.congr fun i hi => by simp [hi]), hkp⟩
/-- A bool, and nothing written. -/
def SomeBool (w : World) (e : Ending) (w' : World) : Prop := ∃ b, e = .returned (.bool b) ∧ w = w'
/-- An int, and nothing written. -/
def SomeInt (w : World) (e : Ending) (w' : World) : Prop := ∃ z, e = .returned (.int .i64 z) ∧ w = w'
set_option maxHeartbeats 1000000 in
theorem zzBytes_FnSetpathExact_any (kind : Int) (a0 : Option Addr) (n0 c0 : Nat) (a1 : Option Addr) (n1 c1 : Nat) (ss : List ByteArray) (pkind idx n : Int) (key : ByteArray) (w : World)
    (h0 : n0 ≤ 9223372036854775807) (h1 : n1 ≤ 9223372036854775807) (h2 : key.size ≤ 9223372036854775807) (h3 : ∀ i, i < n1 → (ss.getD i ByteArray.empty).size ≤ 9223372036854775807) (h : Rd w a1 n1 (vs ss)) :
    Calls Tryz.prog 9 #[.int .i64 kind, .slice a0 n0 c0, .slice a1 n1 c1, .int .i64 pkind, .int .i64 idx, .string key, .int .i64 n] w (SomeBool w) := by
  by_cases g0 : n0 ≤ 1048576
  rotate_left
  · go_enter Tryz.func9, Tryz.ntmps9
    go_wp2
    go_ret
    exact ⟨false, rfl, rfl⟩
  by_cases g1 : n1 ≤ 1048576
  rotate_left
  · go_enter Tryz.func9, Tryz.ntmps9
    go_wp2
    go_ret
    exact ⟨false, rfl, rfl⟩
  by_cases g2 : n0 + n1 ≤ 1048576
  rotate_left
  · go_enter Tryz.func9, Tryz.ntmps9
    go_wp2
    go_ret
    exact ⟨false, rfl, rfl⟩
  go_enter Tryz.func9, Tryz.ntmps9
  go_wp2
  go_loop [15, 16] (fun t i => ∃ (k : Nat) (z : Int), k ≤ n1 ∧ i = .int .i64 k ∧ t = .int .i64 z ∧ 0 ≤ z ∧ z ≤ 1048576) (fun _ i => n1 - (intOf i).toNat)
  case atStart => exact ⟨0, _, Nat.zero_le _, rfl, rfl, by omega, by omega⟩
  case round =>
    obtain ⟨k, z, hk, rfl, rfl, hz0, hz1⟩ := hrel
    by_cases hlt : k < n1
    · obtain ⟨b, off, rfl, hc⟩ := h.at hlt
      obtain ⟨s, hs⟩ : ∃ s, s = ss.getD k ByteArray.empty := ⟨_, rfl⟩
      have hsz : s.size ≤ 9223372036854775807 := by rw [hs]; exact h3 k hlt
      simp only [vs, ← hs] at hc
      clear hs h3 h
      by_cases q1 : s.size ≤ 1048576
      rotate_left
      · go_wp2
        go_ret
        exact ⟨false, rfl, rfl⟩
      by_cases q2 : z + s.size ≤ 1048576
      rotate_left
      · go_wp2
        go_ret
        exact ⟨false, rfl, rfl⟩
      go_wp2
      go_round
      case rel => exact ⟨k + 1, z + s.size, by omega, by go_num, rfl, by omega, by omega⟩
      case measure => simp [intOf]; omega
    · by_cases q1 : key.size ≤ 1048576
      rotate_left
      · go_wp2
        go_ret
        exact ⟨false, rfl, rfl⟩
      by_cases q2 : z + key.size ≤ 1048576
      rotate_left
      · go_wp2
        go_ret
        exact ⟨false, rfl, rfl⟩
      go_wp2
      go_ret
      exact ⟨true, rfl, rfl⟩
set_option maxHeartbeats 1000000 in
theorem zzBytes_FnSetpathKeepsInput_any (kind : Int) (a0 : Option Addr) (n0 c0 : Nat) (a1 : Option Addr) (n1 c1 : Nat) (ss : List ByteArray) (pkind idx n : Int) (key : ByteArray) (w : World)
    (h0 : n0 ≤ 9223372036854775807) (h1 : n1 ≤ 9223372036854775807) (h2 : key.size ≤ 9223372036854775807) (h3 : ∀ i, i < n1 → (ss.getD i ByteArray.empty).size ≤ 9223372036854775807) (h : Rd w a1 n1 (vs ss)) :
    Calls Tryz.prog 19 #[.int .i64 kind, .slice a0 n0 c0, .slice a1 n1 c1, .int .i64 pkind, .int .i64 idx, .string key, .int .i64 n] w (SomeBool w) := by
  by_cases g0 : n0 ≤ 1048576
  rotate_left
  · go_enter Tryz.func19, Tryz.ntmps19
    go_wp2
    go_ret
    exact ⟨false, rfl, rfl⟩
  by_cases g1 : n1 ≤ 1048576
  rotate_left
  · go_enter Tryz.func19, Tryz.ntmps19
    go_wp2
    go_ret
    exact ⟨false, rfl, rfl⟩
  by_cases g2 : n0 + n1 ≤ 1048576
  rotate_left
  · go_enter Tryz.func19, Tryz.ntmps19
    go_wp2
    go_ret
    exact ⟨false, rfl, rfl⟩
  go_enter Tryz.func19, Tryz.ntmps19
  go_wp2
  go_loop [15, 16] (fun t i => ∃ (k : Nat) (z : Int), k ≤ n1 ∧ i = .int .i64 k ∧ t = .int .i64 z ∧ 0 ≤ z ∧ z ≤ 1048576) (fun _ i => n1 - (intOf i).toNat)
  case atStart => exact ⟨0, _, Nat.zero_le _, rfl, rfl, by omega, by omega⟩
  case round =>
    obtain ⟨k, z, hk, rfl, rfl, hz0, hz1⟩ := hrel
    by_cases hlt : k < n1
    · obtain ⟨b, off, rfl, hc⟩ := h.at hlt
      obtain ⟨s, hs⟩ : ∃ s, s = ss.getD k ByteArray.empty := ⟨_, rfl⟩
      have hsz : s.size ≤ 9223372036854775807 := by rw [hs]; exact h3 k hlt
      simp only [vs, ← hs] at hc
      clear hs h3 h
      by_cases q1 : s.size ≤ 1048576
      rotate_left
      · go_wp2
        go_ret
        exact ⟨false, rfl, rfl⟩
      by_cases q2 : z + s.size ≤ 1048576
      rotate_left
      · go_wp2
        go_ret
        exact ⟨false, rfl, rfl⟩
      go_wp2
      go_round
      case rel => exact ⟨k + 1, z + s.size, by omega, by go_num, rfl, by omega, by omega⟩
      case measure => simp [intOf]; omega
    · by_cases q1 : key.size ≤ 1048576
      rotate_left
      · go_wp2
        go_ret
        exact ⟨false, rfl, rfl⟩
      by_cases q2 : z + key.size ≤ 1048576
      rotate_left
      · go_wp2
        go_ret
        exact ⟨false, rfl, rfl⟩
      go_wp2
      go_ret
      exact ⟨true, rfl, rfl⟩
set_option maxHeartbeats 1000000 in
theorem zzBytes_FnSetpathWithAllocatorExact_any (kind : Int) (a0 : Option Addr) (n0 c0 : Nat) (a1 : Option Addr) (n1 c1 : Nat) (ss : List ByteArray) (pkind idx n : Int) (key : ByteArray) (w : World)
    (h0 : n0 ≤ 9223372036854775807) (h1 : n1 ≤ 9223372036854775807) (h2 : key.size ≤ 9223372036854775807) (h3 : ∀ i, i < n1 → (ss.getD i ByteArray.empty).size ≤ 9223372036854775807) (h : Rd w a1 n1 (vs ss)) :
    Calls Tryz.prog 20 #[.int .i64 kind, .slice a0 n0 c0, .slice a1 n1 c1, .int .i64 pkind, .int .i64 idx, .string key, .int .i64 n] w (SomeBool w) := by
  by_cases g0 : n0 ≤ 1048576
  rotate_left
  · go_enter Tryz.func20, Tryz.ntmps20
    go_wp2
    go_ret
    exact ⟨false, rfl, rfl⟩
  by_cases g1 : n1 ≤ 1048576
  rotate_left
  · go_enter Tryz.func20, Tryz.ntmps20
    go_wp2
    go_ret
    exact ⟨false, rfl, rfl⟩
  by_cases g2 : n0 + n1 ≤ 1048576
  rotate_left
  · go_enter Tryz.func20, Tryz.ntmps20
    go_wp2
    go_ret
    exact ⟨false, rfl, rfl⟩
  go_enter Tryz.func20, Tryz.ntmps20
  go_wp2
  go_loop [15, 16] (fun t i => ∃ (k : Nat) (z : Int), k ≤ n1 ∧ i = .int .i64 k ∧ t = .int .i64 z ∧ 0 ≤ z ∧ z ≤ 1048576) (fun _ i => n1 - (intOf i).toNat)
  case atStart => exact ⟨0, _, Nat.zero_le _, rfl, rfl, by omega, by omega⟩
  case round =>
    obtain ⟨k, z, hk, rfl, rfl, hz0, hz1⟩ := hrel
    by_cases hlt : k < n1
    · obtain ⟨b, off, rfl, hc⟩ := h.at hlt
      obtain ⟨s, hs⟩ : ∃ s, s = ss.getD k ByteArray.empty := ⟨_, rfl⟩
      have hsz : s.size ≤ 9223372036854775807 := by rw [hs]; exact h3 k hlt
      simp only [vs, ← hs] at hc
      clear hs h3 h
      by_cases q1 : s.size ≤ 1048576
      rotate_left
      · go_wp2
        go_ret
        exact ⟨false, rfl, rfl⟩
      by_cases q2 : z + s.size ≤ 1048576
      rotate_left
      · go_wp2
        go_ret
        exact ⟨false, rfl, rfl⟩
      go_wp2
      go_round
      case rel => exact ⟨k + 1, z + s.size, by omega, by go_num, rfl, by omega, by omega⟩
      case measure => simp [intOf]; omega
    · by_cases q1 : key.size ≤ 1048576
      rotate_left
      · go_wp2
        go_ret
        exact ⟨false, rfl, rfl⟩
      by_cases q2 : z + key.size ≤ 1048576
      rotate_left
      · go_wp2
        go_ret
        exact ⟨false, rfl, rfl⟩
      go_wp2
      go_ret
      exact ⟨true, rfl, rfl⟩
set_option maxHeartbeats 1000000 in
theorem zzBytes_FnSetpathWithAllocatorAgrees_any (kind : Int) (a0 : Option Addr) (n0 c0 : Nat) (a1 : Option Addr) (n1 c1 : Nat) (ss : List ByteArray) (pkind idx n : Int) (key : ByteArray) (w : World)
    (h0 : n0 ≤ 9223372036854775807) (h1 : n1 ≤ 9223372036854775807) (h2 : key.size ≤ 9223372036854775807) (h3 : ∀ i, i < n1 → (ss.getD i ByteArray.empty).size ≤ 9223372036854775807) (h : Rd w a1 n1 (vs ss)) :
    Calls Tryz.prog 22 #[.int .i64 kind, .slice a0 n0 c0, .slice a1 n1 c1, .int .i64 pkind, .int .i64 idx, .string key, .int .i64 n] w (SomeBool w) := by
  by_cases g0 : n0 ≤ 1048576
  rotate_left
  · go_enter Tryz.func22, Tryz.ntmps22
    go_wp2
    go_ret
    exact ⟨false, rfl, rfl⟩
  by_cases g1 : n1 ≤ 1048576
  rotate_left
  · go_enter Tryz.func22, Tryz.ntmps22
    go_wp2
    go_ret
    exact ⟨false, rfl, rfl⟩
  by_cases g2 : n0 + n1 ≤ 1048576
  rotate_left
  · go_enter Tryz.func22, Tryz.ntmps22
    go_wp2
    go_ret
    exact ⟨false, rfl, rfl⟩
  go_enter Tryz.func22, Tryz.ntmps22
  go_wp2
  go_loop [15, 16] (fun t i => ∃ (k : Nat) (z : Int), k ≤ n1 ∧ i = .int .i64 k ∧ t = .int .i64 z ∧ 0 ≤ z ∧ z ≤ 1048576) (fun _ i => n1 - (intOf i).toNat)
  case atStart => exact ⟨0, _, Nat.zero_le _, rfl, rfl, by omega, by omega⟩
  case round =>
    obtain ⟨k, z, hk, rfl, rfl, hz0, hz1⟩ := hrel
    by_cases hlt : k < n1
    · obtain ⟨b, off, rfl, hc⟩ := h.at hlt
      obtain ⟨s, hs⟩ : ∃ s, s = ss.getD k ByteArray.empty := ⟨_, rfl⟩
      have hsz : s.size ≤ 9223372036854775807 := by rw [hs]; exact h3 k hlt
      simp only [vs, ← hs] at hc
      clear hs h3 h
      by_cases q1 : s.size ≤ 1048576
      rotate_left
      · go_wp2
        go_ret
        exact ⟨false, rfl, rfl⟩
      by_cases q2 : z + s.size ≤ 1048576
      rotate_left
      · go_wp2
        go_ret
        exact ⟨false, rfl, rfl⟩
      go_wp2
      go_round
      case rel => exact ⟨k + 1, z + s.size, by omega, by go_num, rfl, by omega, by omega⟩
      case measure => simp [intOf]; omega
    · by_cases q1 : key.size ≤ 1048576
      rotate_left
      · go_wp2
        go_ret
        exact ⟨false, rfl, rfl⟩
      by_cases q2 : z + key.size ≤ 1048576
      rotate_left
      · go_wp2
        go_ret
        exact ⟨false, rfl, rfl⟩
      go_wp2
      go_ret
      exact ⟨true, rfl, rfl⟩
set_option maxHeartbeats 1000000 in
theorem zzBytes_FnSetpathInternalExact_any (kind : Int) (a0 : Option Addr) (n0 c0 : Nat) (a1 : Option Addr) (n1 c1 : Nat) (ss : List ByteArray) (pkind idx n : Int) (key : ByteArray) (ub : Bool) (w : World)
    (h0 : n0 ≤ 9223372036854775807) (h1 : n1 ≤ 9223372036854775807) (h2 : key.size ≤ 9223372036854775807) (h3 : ∀ i, i < n1 → (ss.getD i ByteArray.empty).size ≤ 9223372036854775807) (h : Rd w a1 n1 (vs ss)) :
    Calls Tryz.prog 16 #[.int .i64 kind, .slice a0 n0 c0, .slice a1 n1 c1, .int .i64 pkind, .int .i64 idx, .string key, .int .i64 n, .bool ub] w (SomeBool w) := by
  by_cases g0 : n0 ≤ 1048576
  rotate_left
  · go_enter Tryz.func16, Tryz.ntmps16
    go_wp2
    go_ret
    exact ⟨false, rfl, rfl⟩
  by_cases g1 : n1 ≤ 1048576
  rotate_left
  · go_enter Tryz.func16, Tryz.ntmps16
    go_wp2
    go_ret
    exact ⟨false, rfl, rfl⟩
  by_cases g2 : n0 + n1 ≤ 1048576
  rotate_left
  · go_enter Tryz.func16, Tryz.ntmps16
    go_wp2
    go_ret
    exact ⟨false, rfl, rfl⟩
  go_enter Tryz.func16, Tryz.ntmps16
  go_wp2
  go_loop [17, 18] (fun t i => ∃ (k : Nat) (z : Int), k ≤ n1 ∧ i = .int .i64 k ∧ t = .int .i64 z ∧ 0 ≤ z ∧ z ≤ 1048576) (fun _ i => n1 - (intOf i).toNat)
  case atStart => exact ⟨0, _, Nat.zero_le _, rfl, rfl, by omega, by omega⟩
  case round =>
    obtain ⟨k, z, hk, rfl, rfl, hz0, hz1⟩ := hrel
    by_cases hlt : k < n1
    · obtain ⟨b, off, rfl, hc⟩ := h.at hlt
      obtain ⟨s, hs⟩ : ∃ s, s = ss.getD k ByteArray.empty := ⟨_, rfl⟩
      have hsz : s.size ≤ 9223372036854775807 := by rw [hs]; exact h3 k hlt
      simp only [vs, ← hs] at hc
      clear hs h3 h
      by_cases q1 : s.size ≤ 1048576
      rotate_left
      · go_wp2
        go_ret
        exact ⟨false, rfl, rfl⟩
      by_cases q2 : z + s.size ≤ 1048576
      rotate_left
      · go_wp2
        go_ret
        exact ⟨false, rfl, rfl⟩
      go_wp2
      go_round
      case rel => exact ⟨k + 1, z + s.size, by omega, by go_num, rfl, by omega, by omega⟩
      case measure => simp [intOf]; omega
    · by_cases q1 : key.size ≤ 1048576
      rotate_left
      · go_wp2
        go_ret
        exact ⟨false, rfl, rfl⟩
      by_cases q2 : z + key.size ≤ 1048576
      rotate_left
      · go_wp2
        go_ret
        exact ⟨false, rfl, rfl⟩
      go_wp2
      go_ret
      exact ⟨true, rfl, rfl⟩
set_option maxHeartbeats 1000000 in
theorem zzBytes_FnSetpathOwnedInPlace_any (a0 : Option Addr) (n0 c0 : Nat) (idx n : Int) (w : World) (h0 : n0 ≤ 9223372036854775807) :
    Calls Tryz.prog 24 #[.slice a0 n0 c0, .int .i64 idx, .int .i64 n] w (SomeBool w) := by
  by_cases g0 : n0 ≤ 1048576
  rotate_left
  · go_enter Tryz.func24, Tryz.ntmps24
    go_wp2
    go_ret
    exact ⟨false, rfl, rfl⟩
  · go_enter Tryz.func24, Tryz.ntmps24
    go_wp2
    go_ret
    exact ⟨true, rfl, rfl⟩
set_option maxHeartbeats 1000000 in
theorem zzBytes_b2_any (a0 : Option Addr) (n0 c0 : Nat) (a1 : Option Addr) (n1 c1 : Nat) (ss : List ByteArray) (key : ByteArray) (w : World)
    (h0 : n0 ≤ 65536) (h1 : n1 ≤ 4096) (h2 : key.size ≤ 1048576) (h3 : ∀ i, i < n1 → (ss.getD i ByteArray.empty).size ≤ 9223372036854775807) (h : Rd w a1 n1 (vs ss)) :
    Calls Tryz.prog 10 #[.slice a0 n0 c0, .slice a1 n1 c1, .string key] w (SomeInt w) := by
  go_enter Tryz.func10, Tryz.ntmps10
  go_wp2
  go_loop [7, 8] (fun t i => ∃ (k : Nat) (z : Int), k ≤ n1 ∧ i = .int .i64 k ∧ t = .int .i64 z ∧ 0 ≤ z ∧ z ≤ 4194304) (fun _ i => n1 - (intOf i).toNat)
  case atStart => exact ⟨0, _, Nat.zero_le _, rfl, rfl, by omega, by omega⟩
  case round =>
    obtain ⟨k, z, hk, rfl, rfl, hz0, hz1⟩ := hrel
    by_cases hlt : k < n1
    · obtain ⟨b, off, rfl, hc⟩ := h.at hlt
      obtain ⟨s, hs⟩ : ∃ s, s = ss.getD k ByteArray.empty := ⟨_, rfl⟩
      have hsz : s.size ≤ 9223372036854775807 := by rw [hs]; exact h3 k hlt
      simp only [vs, ← hs] at hc
      clear hs h3 h
      by_cases q1 : z ≤ 1048576
      rotate_left
      · go_wp2
        go_ret
        exact ⟨_, rfl, rfl⟩
      by_cases q2 : s.size ≤ 1048576
      rotate_left
      · go_wp2
        go_ret
        exact ⟨_, rfl, rfl⟩
      go_wp2
      go_round
      case rel => exact ⟨k + 1, z + s.size, by omega, by go_num, rfl, by omega, by omega⟩
      case measure => simp [intOf]; omega
    · go_wp2
      go_ret
      exact ⟨_, rfl, rfl⟩
/-- What zzPremise lets in. -/
def Pre (kind : Int) (n0 n1 : Nat) (pkind idx : Int) : Prop := (0 ≤ kind ∧ kind ≤ 3 ∧ 0 ≤ pkind ∧ pkind ≤ 3) ∧ (kind = 2 → n1 = n0) ∧ (pkind = 1 → ¬ (65536 ≤ idx ∧ idx < 536870912))
/-- .. and what it answers. -/
def PreEnd (kind : Int) (n0 n1 : Nat) (pkind idx : Int) (w : World) (e : Ending) (w' : World) : Prop := ∃ b, e = .returned (.bool b) ∧ w = w' ∧ (b = true → Pre kind n0 n1 pkind idx)
set_option maxHeartbeats 2000000 in
theorem zzPremise_b2_any (kind : Int) (a0 : Option Addr) (n0 c0 : Nat) (a1 : Option Addr) (n1 c1 : Nat) (pkind idx : Int) (w : World) (h0 : n0 ≤ 65536) (_h1 : n1 ≤ 4096) :
    Calls Tryz.prog 11 #[.int .i64 kind, .slice a0 n0 c0, .slice a1 n1 c1, .int .i64 pkind, .int .i64 idx] w (PreEnd kind n0 n1 pkind idx w) := by
  by_cases r1 : kind < 0
  · go_enter Tryz.func11, Tryz.ntmps11
    go_wp2
    go_ret
    exact ⟨false, rfl, rfl, by intro h; cases h⟩
  by_cases r2 : kind > 3
  · go_enter Tryz.func11, Tryz.ntmps11
    go_wp2
    go_ret
    exact ⟨false, rfl, rfl, by intro h; cases h⟩
  by_cases r3 : pkind < 0
  · go_enter Tryz.func11, Tryz.ntmps11
    go_wp2
    go_ret
    exact ⟨false, rfl, rfl, by intro h; cases h⟩
  by_cases r4 : pkind > 3
  · go_enter Tryz.func11, Tryz.ntmps11
    go_wp2
    go_ret
    exact ⟨false, rfl, rfl, by intro h; cases h⟩
  by_cases r5 : kind = 2 ∧ n1 ≠ n0
  · obtain ⟨rfl, r5⟩ := r5
    have q1 : ((n1 : Int) != (n0 : Int)) = true := by simp; omega
    go_enter Tryz.func11, Tryz.ntmps11
    go_wp2
    go_ret
    exact ⟨false, rfl, rfl, by intro h; cases h⟩
  by_cases r6 : pkind = 1 ∧ 65536 ≤ idx ∧ idx < 536870912
  · obtain ⟨rfl, r6, r7⟩ := r6
    have q2 : idx ≥ 65536 := r6
    by_cases k2 : kind = 2
    · subst k2
      obtain rfl : n1 = n0 := by omega
      have q1 : ((n1 : Int) != (n1 : Int)) = false := by simp
      go_enter Tryz.func11, Tryz.ntmps11
      go_wp2
      go_ret
      exact ⟨false, rfl, rfl, by intro h; cases h⟩
    · have q1 : (kind == 2) = false := by simpa using k2
      go_enter Tryz.func11, Tryz.ntmps11
      go_wp2
      go_ret
      exact ⟨false, rfl, rfl, by intro h; cases h⟩
  have HP : Pre kind n0 n1 pkind idx := ⟨by omega, by omega, by omega⟩
  have HP' := Lib.hid HP
  clear HP
  by_cases k2 : kind = 2
  · subst k2
    obtain rfl : n1 = n0 := by omega
    have q1 : ((n1 : Int) != (n1 : Int)) = false := by simp
    by_cases p1 : pkind = 1
    · subst p1
      by_cases i1 : idx ≥ 65536
      · have i2 : ¬ idx < 536870912 := by omega
        go_enter Tryz.func11, Tryz.ntmps11
        go_wp2
        go_ret
        exact ⟨true, rfl, rfl, fun _ => HP'.out⟩
      · clear r6
        go_enter Tryz.func11, Tryz.ntmps11
        go_wp2
        go_ret
        exact ⟨true, rfl, rfl, fun _ => HP'.out⟩
    · have p2 : (pkind == 1) = false := by simpa using p1
      clear r6
      go_enter Tryz.func11, Tryz.ntmps11
      go_wp2
      go_ret
      exact ⟨true, rfl, rfl, fun _ => HP'.out⟩
  · have q1 : (kind == 2) = false := by simpa using k2
    by_cases p1 : pkind = 1
    · subst p1
      by_cases i1 : idx ≥ 65536
      · have i2 : ¬ idx < 536870912 := by omega
        go_enter Tryz.func11, Tryz.ntmps11
        go_wp2
        go_ret
        exact ⟨true, rfl, rfl, fun _ => HP'.out⟩
      · clear r6
        go_enter Tryz.func11, Tryz.ntmps11
        go_wp2
        go_ret
        exact ⟨true, rfl, rfl, fun _ => HP'.out⟩
    · have p2 : (pkind == 1) = false := by simpa using p1
      clear r6
      go_enter Tryz.func11, Tryz.ntmps11
      go_wp2
      go_ret
      exact ⟨true, rfl, rfl, fun _ => HP'.out⟩
end Go.Proofs.YtdhgaogjdjhokaaGreatDoor
