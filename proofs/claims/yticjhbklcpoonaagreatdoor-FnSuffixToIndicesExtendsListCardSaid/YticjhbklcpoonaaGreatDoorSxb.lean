/- The guard, the sizes and the builder of the law on suffixes. -/
import Derived.Test.YticjhbklcpoonaaGreatDoorSxa
namespace Go.Proofs.YticjhbklcpoonaaGreatDoor
open Go.RowKit Go.Gq
set_option maxRecDepth 100000
set_option maxHeartbeats 2000000 in
theorem outside_any (hi : Bool) (nm : ByteArray) (hs : Bool) (st : ByteArray) (it sl : Bool) (sk : Int) (s : ByteArray) (ek : Int) (es : ByteArray) (ir op : Bool) (m1 : nm.size ≤ 9223372036854775807) (_m3 : st.size ≤ 9223372036854775807) (m7 : s.size ≤ 9223372036854775807) (m9 : es.size ≤ 9223372036854775807) (w : World) :
    Calls Tryz.prog 21 #[sin hi nm hs st it sl sk s ek es ir op] w fun e w' => ∃ b, e = .returned (.bool b) ∧ Kept w w' ∧ (hi = true → nm.toList.isEmpty = true → hs = false → sl = false → sk ≠ 1 → sk ≠ 2 → b = true) := by
  cases hi with
  | false =>
    cases ir with
    | false =>
      go_enter Tryz.func21, Tryz.ntmps21
      go_wp2
      go_ret
      exact ⟨_, rfl, kept_alloc _ _, fun h => by cases h⟩
    | true =>
      go_enter Tryz.func21, Tryz.ntmps21
      go_wp2
      go_ret
      exact ⟨_, rfl, kept_alloc _ _, fun h => by cases h⟩
  | true =>
  cases ir with
  | true =>
    go_enter Tryz.func21, Tryz.ntmps21
    go_wp2
    go_ret
    exact ⟨_, rfl, kept_alloc _ _, fun _ _ _ _ _ _ => rfl⟩
  | false =>
  cases op with
  | true =>
    go_enter Tryz.func21, Tryz.ntmps21
    go_wp2
    go_ret
    exact ⟨_, rfl, kept_alloc _ _, fun _ _ _ _ _ _ => rfl⟩
  | false =>
  cases hnm : nm.toList.isEmpty with
  | false =>
    cases hs with
    | true =>
      go_enter Tryz.func21, Tryz.ntmps21
      go_wp2
      go_ret
      exact ⟨_, rfl, kept_alloc _ _, fun _ h => by cases h⟩
    | false =>
    cases sl with
    | true =>
      go_enter Tryz.func21, Tryz.ntmps21
      go_wp2
      go_ret
      exact ⟨_, rfl, kept_alloc _ _, fun _ h => by cases h⟩
    | false =>
    go_enter Tryz.func21, Tryz.ntmps21
    go_wp2_with fail
    refine (ident_any nm _ m1).mono ?_
    rintro e w1 ⟨b, rfl, rfl⟩
    go_wp2
    go_ret
    exact ⟨_, rfl, kept_alloc _ _, fun _ h => by cases h⟩
  | true =>
  cases hs with
  | true =>
    go_enter Tryz.func21, Tryz.ntmps21
    go_wp2
    go_ret
    exact ⟨_, rfl, kept_alloc _ _, fun _ _ h => by cases h⟩
  | false =>
  cases sl with
  | false =>
    go_enter Tryz.func21, Tryz.ntmps21
    go_wp2_with fail
    refine (keyOk_any sk s false _ m7).mono ?_
    rintro e w1 ⟨rfl, b, rfl, hb⟩
    have HB : Hid (sk ≠ 1 → sk ≠ 2 → b = false) := fun h1 h2 => hb h1 h2 rfl
    clear hb
    go_wp2
    go_ret
    refine ⟨_, rfl, kept_alloc _ _, fun _ _ _ _ h1 h2 => ?_⟩
    rw [HB.out h1 h2]
    rfl
  | true =>
  by_cases s0 : sk = 0
  · subst s0
    by_cases e0 : ek = 0
    · subst e0
      go_enter Tryz.func21, Tryz.ntmps21
      go_wp2
      go_ret
      exact ⟨_, rfl, kept_alloc _ _, fun _ _ _ h => by cases h⟩
    have e0b : (ek == 0) = false := by simpa using e0
    go_enter Tryz.func21, Tryz.ntmps21
    go_wp2_with fail
    refine (keyOk_any 0 s true _ m7).mono ?_
    rintro e w1 ⟨rfl, b, rfl, _⟩
    cases b with
    | false =>
      go_wp2
      go_ret
      exact ⟨_, rfl, kept_alloc _ _, fun _ _ _ h => by cases h⟩
    | true =>
      go_wp2_with fail
      refine (keyOk_any ek es true _ m9).mono ?_
      rintro e w1 ⟨rfl, b, rfl, _⟩
      go_wp2
      go_ret
      exact ⟨_, rfl, kept_alloc _ _, fun _ _ _ h => by cases h⟩
  have s0b : (sk == 0) = false := by simpa using s0
  go_enter Tryz.func21, Tryz.ntmps21
  go_wp2_with fail
  refine (keyOk_any sk s true _ m7).mono ?_
  rintro e w1 ⟨rfl, b, rfl, _⟩
  cases b with
  | false =>
    go_wp2
    go_ret
    exact ⟨_, rfl, kept_alloc _ _, fun _ _ _ h => by cases h⟩
  | true =>
    go_wp2_with fail
    refine (keyOk_any ek es true _ m9).mono ?_
    rintro e w1 ⟨rfl, b, rfl, _⟩
    go_wp2
    go_ret
    exact ⟨_, rfl, kept_alloc _ _, fun _ _ _ h => by cases h⟩
theorem stringsBytes_any (a0 : Option Addr) (n0 c0 : Nat) (s : Nat → ByteArray) (w : World) (h0 : Rd w a0 n0 (fun i => .string (s i))) (hn : n0 ≤ 9223372036854775807) :
    Calls Tryz.prog 20 #[.slice a0 n0 c0] w (SomeInt w) := by
  have H0 := Lib.hid h0
  clear h0
  go_enter Tryz.func20, Tryz.ntmps20
  go_wp2
  go_loop [3, 4] (fun t i => ∃ (k : Nat) (z : Int), k ≤ n0 ∧ i = .int .i64 k ∧ t = .int .i64 z) (fun _ i => n0 - (intOf i).toNat)
  case atStart => exact ⟨0, _, Nat.zero_le _, rfl, rfl⟩
  case round =>
    obtain ⟨k, z, hk, rfl, rfl⟩ := hrel
    by_cases hlt : k < n0
    · obtain ⟨b, off, e1, hc⟩ := H0.out.at hlt
      subst e1
      obtain ⟨x, hx⟩ : ∃ x, x = s k := ⟨_, rfl⟩
      rw [← hx] at hc
      clear hx
      have q4 : (0 : Int) ≤ (k : Int) := by omega
      have q5 : (k : Int) < (n0 : Int) := by omega
      go_wp2
      go_round
      case rel => exact ⟨k + 1, _, by omega, by go_num, rfl⟩
      case measure => simp [intOf]; omega
    · go_wp2
      go_ret
      exact ⟨_, rfl, rfl⟩
set_option maxHeartbeats 2000000 in
theorem zzBytes_any56 (hi : Bool) (nm : ByteArray) (hs : Bool) (st : ByteArray) (it sl : Bool) (sk : Int) (s : ByteArray) (ek : Int) (es : ByteArray) (ir op : Bool) (m1 : nm.size ≤ 9223372036854775807) (_m3 : st.size ≤ 9223372036854775807) (m7 : s.size ≤ 9223372036854775807) (m9 : es.size ≤ 9223372036854775807) (a0 : Option Addr) (n0 c0 : Nat) (p : Nat → ByteArray) (w : World) (h0 : Rd w a0 n0 (fun i => .string (p i))) (m0 : n0 ≤ 9223372036854775807) (k0 : ∀ i, i < n0 → (p i).size ≤ 9223372036854775807) :
    Calls Tryz.prog 18 #[sin hi nm hs st it sl sk s ek es ir op, .slice a0 n0 c0] w (KeptBool w) := by
  have H0 : Hid (Rd (w.alloc (.cells #[.bool hi, .string nm, .bool hs, .string st, .bool it, .bool sl, .int .i64 sk, .string s, .int .i64 ek, .string es, .bool ir, .bool op] 55)) a0 n0 (fun i => .string (p i))) := h0.kept (kept_alloc _ _)
  have H0S := Lib.hid k0
  clear h0 k0
  by_cases r0 : (nm.size : Int) ≤ 1048576
  rotate_left
  · go_enter Tryz.func18, Tryz.ntmps18
    go_wp2
    go_ret
    exact ⟨false, rfl, kept_alloc _ _⟩
  by_cases r1 : (st.size : Int) ≤ 1048576
  rotate_left
  · go_enter Tryz.func18, Tryz.ntmps18
    go_wp2
    go_ret
    exact ⟨false, rfl, kept_alloc _ _⟩
  by_cases t1 : (nm.size : Int) + st.size ≤ 1048576
  rotate_left
  · go_enter Tryz.func18, Tryz.ntmps18
    go_wp2
    go_ret
    exact ⟨false, rfl, kept_alloc _ _⟩
  by_cases r2 : (s.size : Int) ≤ 1048576
  rotate_left
  · go_enter Tryz.func18, Tryz.ntmps18
    go_wp2
    go_ret
    exact ⟨false, rfl, kept_alloc _ _⟩
  by_cases t2 : (nm.size : Int) + st.size + s.size ≤ 1048576
  rotate_left
  · go_enter Tryz.func18, Tryz.ntmps18
    go_wp2
    go_ret
    exact ⟨false, rfl, kept_alloc _ _⟩
  by_cases r3 : (es.size : Int) ≤ 1048576
  rotate_left
  · go_enter Tryz.func18, Tryz.ntmps18
    go_wp2
    go_ret
    exact ⟨false, rfl, kept_alloc _ _⟩
  by_cases t3 : (nm.size : Int) + st.size + s.size + es.size ≤ 1048576
  rotate_left
  · go_enter Tryz.func18, Tryz.ntmps18
    go_wp2
    go_ret
    exact ⟨false, rfl, kept_alloc _ _⟩
  by_cases r9 : (n0 : Int) ≤ 1048576
  rotate_left
  · go_enter Tryz.func18, Tryz.ntmps18
    go_wp2
    go_ret
    exact ⟨false, rfl, kept_alloc _ _⟩
  by_cases t9 : (nm.size : Int) + st.size + s.size + es.size + n0 ≤ 1048576
  rotate_left
  · go_enter Tryz.func18, Tryz.ntmps18
    go_wp2
    go_ret
    exact ⟨false, rfl, kept_alloc _ _⟩
  go_enter Tryz.func18, Tryz.ntmps18
  go_wp2
  go_loop [5, 6] (fun t i => ∃ (k : Nat) (z : Int), k ≤ n0 ∧ i = .int .i64 k ∧ t = .int .i64 z) (fun _ i => n0 - (intOf i).toNat)
  case atStart => exact ⟨0, _, Nat.zero_le _, rfl, rfl⟩
  case round =>
    obtain ⟨k, z0, hk, rfl, rfl⟩ := hrel
    by_cases hlt : k < n0
    · obtain ⟨b, off, e1, hc⟩ := H0.out.at hlt
      subst e1
      obtain ⟨x, hx⟩ : ∃ x, x = p k := ⟨_, rfl⟩
      have hsz : x.size ≤ 9223372036854775807 := by rw [hx]; exact H0S.out k hlt
      rw [← hx] at hc
      clear hx
      by_cases q1 : x.size ≤ 1048576
      rotate_left
      · go_wp2
        go_ret
        exact ⟨false, rfl, kept_alloc _ _⟩
      by_cases q2 : wrap64 (z0 + x.size) ≤ 1048576
      rotate_left
      · go_wp2
        go_ret
        exact ⟨false, rfl, kept_alloc _ _⟩
      go_wp2
      go_round
      case rel => exact ⟨k + 1, wrap64 (z0 + x.size), by omega, by go_num, rfl⟩
      case measure => simp [intOf]; omega
    have hk2 : (n0 : Int) ≤ (k : Int) := by omega
    go_wp2
    go_ret
    exact ⟨true, rfl, kept_alloc _ _⟩
end Go.Proofs.YticjhbklcpoonaaGreatDoor
