/- The law's guards and clones. -/
import Derived.Test.YticjhbklcpoonaaGreatDoorDep
namespace Go.Proofs.YticjhbklcpoonaaGreatDoor
open Go.RowKit Go.Gq
set_option maxRecDepth 100000
def TrueKept (w : World) (e : Ending) (w' : World) : Prop := e = .returned (.bool true) ∧ Kept w w'
def SomeBool (w : World) (e : Ending) (w' : World) : Prop := ∃ b, e = .returned (.bool b) ∧ w = w'
theorem rd_none {w : World} {n : Nat} {f : Nat → Value} (h : Rd w none n f) : n = 0 := by
  rcases h with h | ⟨b, off, e, h⟩
  · exact h
  · cases e
set_option maxHeartbeats 8000000 in
theorem bytes25 (w : World) (a0 : Option Addr) (n0 c0 : Nat) (s0 : Nat → ByteArray) (h0 : Rd w a0 n0 (fun j => .string (s0 j))) (m0 : n0 ≤ 9223372036854775807) (z0 : ∀ j, j < n0 → (s0 j).size ≤ 9223372036854775807) (a1 : Option Addr) (n1 c1 : Nat) (s1 : Nat → ByteArray) (h1 : Rd w a1 n1 (fun j => .string (s1 j))) (m1 : n1 ≤ 9223372036854775807) (z1 : ∀ j, j < n1 → (s1 j).size ≤ 9223372036854775807) (a2 : Option Addr) (n2 c2 : Nat) (s2 : Nat → ByteArray) (h2 : Rd w a2 n2 (fun j => .string (s2 j))) (m2 : n2 ≤ 9223372036854775807) (z2 : ∀ j, j < n2 → (s2 j).size ≤ 9223372036854775807) :
    Calls Tryz.prog 13 #[.slice a0 n0 c0, .slice a1 n1 c1, .slice a2 n2 c2] w (SomeBool w) := by
  have H0 := Lib.hid (And.intro h0 z0)
  have H1 := Lib.hid (And.intro h1 z1)
  have H2 := Lib.hid (And.intro h2 z2)
  clear h0 h1 h2 z0 z1 z2
  by_cases r0 : 1048576 < n0
  · go_enter Tryz.func13, Tryz.ntmps13
    go_wp2
    go_ret
    exact ⟨_, rfl, rfl⟩
  go_enter Tryz.func13, Tryz.ntmps13
  go_wp2
  go_loop [7, 8] (fun t j => ∃ (x : Int) (k : Nat), t = .int .i64 x ∧ j = .int .i64 k ∧ k ≤ n0 ∧ 0 ≤ x ∧ x ≤ 1048576) (fun _ j => n0 - (intOf j).toNat)
  case atStart => exact ⟨_, 0, rfl, rfl, by omega, by omega, by omega⟩
  case round =>
  obtain ⟨x0, k0, rfl, rfl, hk0, x00, x10⟩ := hrel
  by_cases hlt0 : k0 < n0
  · obtain ⟨bb, oo, e1, hc⟩ := H0.out.1.at hlt0
    subst e1
    have hsz := H0.out.2 k0 hlt0
    obtain ⟨y, hy⟩ : ∃ y, y = s0 k0 := ⟨_, rfl⟩
    rw [← hy] at hc hsz
    clear hy
    have q4 : (0 : Int) ≤ (k0 : Int) := by omega
    have q5 : (k0 : Int) < (n0 : Int) := by omega
    by_cases g1 : (1048576 : Int) < (y.size : Int)
    · go_wp2
      go_ret
      exact ⟨_, rfl, rfl⟩
    by_cases g2 : (1048576 : Int) < x0 + (y.size : Int)
    · go_wp2
      go_ret
      exact ⟨_, rfl, rfl⟩
    go_wp2
    go_round
    case rel => exact ⟨_, k0 + 1, rfl, by go_num, by omega, by omega, by omega⟩
    case measure => simp [intOf]; omega
  have q60 : ¬ (k0 : Int) < (n0 : Int) := by omega
  by_cases g30 : (1048576 : Int) < (n1 : Int)
  · go_wp2
    go_ret
    exact ⟨_, rfl, rfl⟩
  by_cases g40 : (1048576 : Int) < x0 + (n1 : Int)
  · go_wp2
    go_ret
    exact ⟨_, rfl, rfl⟩
  go_wp2
  go_loop [7, 9] (fun t j => ∃ (x : Int) (k : Nat), t = .int .i64 x ∧ j = .int .i64 k ∧ k ≤ n1 ∧ 0 ≤ x ∧ x ≤ 1048576) (fun _ j => n1 - (intOf j).toNat)
  case atStart => exact ⟨_, 0, rfl, rfl, by omega, by omega, by omega⟩
  case round =>
  obtain ⟨x1, k1, rfl, rfl, hk1, x01, x11⟩ := hrel
  by_cases hlt1 : k1 < n1
  · obtain ⟨bb, oo, e1, hc⟩ := H1.out.1.at hlt1
    subst e1
    have hsz := H1.out.2 k1 hlt1
    obtain ⟨y, hy⟩ : ∃ y, y = s1 k1 := ⟨_, rfl⟩
    rw [← hy] at hc hsz
    clear hy
    have q4 : (0 : Int) ≤ (k1 : Int) := by omega
    have q5 : (k1 : Int) < (n1 : Int) := by omega
    by_cases g1 : (1048576 : Int) < (y.size : Int)
    · go_wp2
      go_ret
      exact ⟨_, rfl, rfl⟩
    by_cases g2 : (1048576 : Int) < x1 + (y.size : Int)
    · go_wp2
      go_ret
      exact ⟨_, rfl, rfl⟩
    go_wp2
    go_round
    case rel => exact ⟨_, k1 + 1, rfl, by go_num, by omega, by omega, by omega⟩
    case measure => simp [intOf]; omega
  have q61 : ¬ (k1 : Int) < (n1 : Int) := by omega
  by_cases g31 : (1048576 : Int) < (n2 : Int)
  · go_wp2
    go_ret
    exact ⟨_, rfl, rfl⟩
  by_cases g41 : (1048576 : Int) < x1 + (n2 : Int)
  · go_wp2
    go_ret
    exact ⟨_, rfl, rfl⟩
  go_wp2
  go_loop [7, 10] (fun t j => ∃ (x : Int) (k : Nat), t = .int .i64 x ∧ j = .int .i64 k ∧ k ≤ n2 ∧ 0 ≤ x ∧ x ≤ 1048576) (fun _ j => n2 - (intOf j).toNat)
  case atStart => exact ⟨_, 0, rfl, rfl, by omega, by omega, by omega⟩
  case round =>
  obtain ⟨x2, k2, rfl, rfl, hk2, x02, x12⟩ := hrel
  by_cases hlt2 : k2 < n2
  · obtain ⟨bb, oo, e1, hc⟩ := H2.out.1.at hlt2
    subst e1
    have hsz := H2.out.2 k2 hlt2
    obtain ⟨y, hy⟩ : ∃ y, y = s2 k2 := ⟨_, rfl⟩
    rw [← hy] at hc hsz
    clear hy
    have q4 : (0 : Int) ≤ (k2 : Int) := by omega
    have q5 : (k2 : Int) < (n2 : Int) := by omega
    by_cases g1 : (1048576 : Int) < (y.size : Int)
    · go_wp2
      go_ret
      exact ⟨_, rfl, rfl⟩
    by_cases g2 : (1048576 : Int) < x2 + (y.size : Int)
    · go_wp2
      go_ret
      exact ⟨_, rfl, rfl⟩
    go_wp2
    go_round
    case rel => exact ⟨_, k2 + 1, rfl, by go_num, by omega, by omega, by omega⟩
    case measure => simp [intOf]; omega
  have q62 : ¬ (k2 : Int) < (n2 : Int) := by omega
  go_wp2
  go_ret
  exact ⟨_, rfl, rfl⟩
def GuardAns (w : World) (n0 n1 n2 : Nat) (e : Ending) (w' : World) : Prop := w = w' ∧ ∃ (x : Int) (b : Bool), e = .returned (.tuple #[.int .i64 x, .bool b]) ∧ (b = true → n0 ≤ 65536 ∧ n1 ≤ 65536 ∧ n2 ≤ 65536 ∧ x = ((min n0 (min n1 n2) : Nat) : Int))
set_option maxHeartbeats 8000000 in
theorem guard25 (w : World) (a0 : Option Addr) (n0 c0 : Nat) (s0 : Nat → ByteArray) (h0 : Rd w a0 n0 (fun j => .string (s0 j))) (m0 : n0 ≤ 9223372036854775807) (z0 : ∀ j, j < n0 → (s0 j).size ≤ 9223372036854775807) (a1 : Option Addr) (n1 c1 : Nat) (s1 : Nat → ByteArray) (h1 : Rd w a1 n1 (fun j => .string (s1 j))) (m1 : n1 ≤ 9223372036854775807) (z1 : ∀ j, j < n1 → (s1 j).size ≤ 9223372036854775807) (a2 : Option Addr) (n2 c2 : Nat) (s2 : Nat → ByteArray) (h2 : Rd w a2 n2 (fun j => .string (s2 j))) (m2 : n2 ≤ 9223372036854775807) (z2 : ∀ j, j < n2 → (s2 j).size ≤ 9223372036854775807) :
    Calls Tryz.prog 14 #[.slice a0 n0 c0, .slice a1 n1 c1, .slice a2 n2 c2] w (GuardAns w n0 n1 n2) := by
  have H0 := Lib.hid (And.intro h0 z0)
  have H1 := Lib.hid (And.intro h1 z1)
  have H2 := Lib.hid (And.intro h2 z2)
  clear h0 h1 h2 z0 z1 z2
  by_cases r0 : (65536 : Int) < (n0 : Int)
  · go_enter Tryz.func14, Tryz.ntmps14
    go_wp2
    go_ret2
    exact ⟨rfl, _, _, rfl, fun h => by cases h⟩
  by_cases r1 : (65536 : Int) < (n1 : Int)
  · go_enter Tryz.func14, Tryz.ntmps14
    go_wp2
    go_ret2
    exact ⟨rfl, _, _, rfl, fun h => by cases h⟩
  by_cases r2 : (65536 : Int) < (n2 : Int)
  · go_enter Tryz.func14, Tryz.ntmps14
    go_wp2
    go_ret2
    exact ⟨rfl, _, _, rfl, fun h => by cases h⟩
  go_enter Tryz.func14, Tryz.ntmps14
  go_wp2
  go_loop [8, 9] (fun t j => ∃ (x : Int) (k : Nat), t = .int .i64 x ∧ j = .int .i64 k ∧ k ≤ n0) (fun _ j => n0 - (intOf j).toNat)
  case atStart => exact ⟨_, 0, rfl, rfl, by omega⟩
  case round =>
  obtain ⟨x0, k0, rfl, rfl, hk0⟩ := hrel
  by_cases hlt0 : k0 < n0
  · obtain ⟨bb, oo, e1, hc⟩ := H0.out.1.at hlt0
    subst e1
    obtain ⟨y, hy⟩ : ∃ y, y = s0 k0 := ⟨_, rfl⟩
    rw [← hy] at hc
    clear hy
    have q4 : (0 : Int) ≤ (k0 : Int) := by omega
    have q5 : (k0 : Int) < (n0 : Int) := by omega
    go_wp2
    go_round
    case rel => exact ⟨_, k0 + 1, rfl, by go_num, by omega⟩
    case measure => simp [intOf]; omega
  have q60 : ¬ (k0 : Int) < (n0 : Int) := by omega
  go_wp2
  go_loop [8, 10] (fun t j => ∃ (x : Int) (k : Nat), t = .int .i64 x ∧ j = .int .i64 k ∧ k ≤ n1) (fun _ j => n1 - (intOf j).toNat)
  case atStart => exact ⟨_, 0, rfl, rfl, by omega⟩
  case round =>
  obtain ⟨x1, k1, rfl, rfl, hk1⟩ := hrel
  by_cases hlt1 : k1 < n1
  · obtain ⟨bb, oo, e1, hc⟩ := H1.out.1.at hlt1
    subst e1
    obtain ⟨y, hy⟩ : ∃ y, y = s1 k1 := ⟨_, rfl⟩
    rw [← hy] at hc
    clear hy
    have q4 : (0 : Int) ≤ (k1 : Int) := by omega
    have q5 : (k1 : Int) < (n1 : Int) := by omega
    go_wp2
    go_round
    case rel => exact ⟨_, k1 + 1, rfl, by go_num, by omega⟩
    case measure => simp [intOf]; omega
  have q61 : ¬ (k1 : Int) < (n1 : Int) := by omega
  go_wp2
  go_loop [8, 11] (fun t j => ∃ (x : Int) (k : Nat), t = .int .i64 x ∧ j = .int .i64 k ∧ k ≤ n2) (fun _ j => n2 - (intOf j).toNat)
  case atStart => exact ⟨_, 0, rfl, rfl, by omega⟩
  case round =>
  obtain ⟨x2, k2, rfl, rfl, hk2⟩ := hrel
  by_cases hlt2 : k2 < n2
  · obtain ⟨bb, oo, e1, hc⟩ := H2.out.1.at hlt2
    subst e1
    obtain ⟨y, hy⟩ : ∃ y, y = s2 k2 := ⟨_, rfl⟩
    rw [← hy] at hc
    clear hy
    have q4 : (0 : Int) ≤ (k2 : Int) := by omega
    have q5 : (k2 : Int) < (n2 : Int) := by omega
    go_wp2
    go_round
    case rel => exact ⟨_, k2 + 1, rfl, by go_num, by omega⟩
    case measure => simp [intOf]; omega
  have q62 : ¬ (k2 : Int) < (n2 : Int) := by omega
  by_cases g5 : (1048576 : Int) < x2
  · go_wp2
    go_ret2
    exact ⟨rfl, _, _, rfl, fun h => by cases h⟩
  by_cases t1 : (n1 : Int) < (n0 : Int)
  · by_cases t2 : (n2 : Int) < (n1 : Int)
    · go_wp2
      go_ret2
      exact ⟨rfl, _, _, rfl, fun _ => ⟨by omega, by omega, by omega, by omega⟩⟩
    · go_wp2
      go_ret2
      exact ⟨rfl, _, _, rfl, fun _ => ⟨by omega, by omega, by omega, by omega⟩⟩
  · by_cases t2 : (n2 : Int) < (n0 : Int)
    · go_wp2
      go_ret2
      exact ⟨rfl, _, _, rfl, fun _ => ⟨by omega, by omega, by omega, by omega⟩⟩
    · go_wp2
      go_ret2
      exact ⟨rfl, _, _, rfl, fun _ => ⟨by omega, by omega, by omega, by omega⟩⟩
section
attribute [local go_sem] Lib.run_eql_slice_nil
set_option maxHeartbeats 1000000 in
theorem clone25 (a : Option Addr) (n c : Nat) (f : Nat → ByteArray) (w : World) (hn : n ≤ 1048576) (h : Rd w a n (fun i => Value.string (f i))) :
    Calls Tryz.prog 15 #[.slice a n c] w fun e w' => ∃ a' c', e = .returned (.slice a' n c') ∧ Rd w' a' n (fun i => Value.string (f i)) ∧ Kept w w' := by
  cases a with
  | none =>
    obtain rfl := rd_none h
    go_enter Tryz.func15, Tryz.ntmps15
    go_wp2
    go_ret
    exact ⟨none, 0, rfl, .inl rfl, Below.refl _ _⟩
  | some x =>
    have hmk := make_gen 29 9 Tryz.underlying29 tixStr rfl (by omega) n n (Nat.le_refl _) (by omega)
    go_enter Tryz.func15, Tryz.ntmps15
    go_wp2
    obtain ⟨W, HW⟩ : ∃ W : World, W = w.alloc (.cells (madeCells #[Value.string ⟨#[]⟩] n) 9) := ⟨_, rfl⟩
    have hrow : W.rowIs w.heap.size 9 n (fun _ => Value.string ⟨#[]⟩) := by rw [HW]; exact World.rowIs_made w _ n 9
    have hk : Kept w W := by rw [HW]; exact kept_alloc _ _
    rw [← HW]
    clear HW hmk
    go_loopw [4] (fun i wr => ∃ k : Nat, k ≤ n ∧ i = .int .i64 k ∧ wr.rowIs w.heap.size 9 n (fun j => if j < k then Value.string (f j) else Value.string ⟨#[]⟩) ∧ Kept w wr) (fun i _ => n - (intOf i).toNat)
    case atStart => exact ⟨0, Nat.zero_le _, rfl, by simpa using hrow, hk⟩
    case round =>
      obtain ⟨k, hk, rfl, hrow, hkp⟩ := hrel
      by_cases hlt : k < n
      · obtain ⟨b, off, hx, hc⟩ := (h.kept hkp).at hlt
        injection hx with hx
        subst hx
        have hd := hrow.cell hlt
        have hz := hrow.frozen k
        have hset := (hrow.set k (Value.string (f k))).congr (g := fun j => if j < k + 1 then Value.string (f j) else Value.string ⟨#[]⟩) (fun j hj => by
          by_cases e : j = k
          · subst e; simp
          · simp only [if_neg e]; by_cases e2 : j < k
            · rw [if_pos e2, if_pos (by omega)]
            · rw [if_neg e2, if_neg (by omega)])
        have hkp2 := hkp.setCell (p := ⟨w.heap.size, k, none⟩) (Nat.le_refl _) (Value.string (f k))
        have Hset := Lib.hid hset
        have Hkp := Lib.hid hkp2
        have q4 : (0 : Int) ≤ (k : Int) := by omega
        have q5 : (k : Int) < (n : Int) := by omega
        simp only [Nat.lt_irrefl, if_false] at hd
        clear hset hkp2 hrow hkp h
        go_wp2
        go_roundw
        case rel => exact ⟨k + 1, by omega, by go_num, Hset.out, Hkp.out⟩
        case measure => simp [intOf]; omega
      · have : k = n := by omega
        subst this
        go_wp2
        go_ret
        refine ⟨_, _, rfl, rd_row (hrow.congr fun i hi => by simp [hi]), hkp⟩
end
end Go.Proofs.YticjhbklcpoonaaGreatDoor
