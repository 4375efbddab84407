/- The guards of the law on suffixes. -/
import Derived.Test.YticjhbklcpoonaaGreatDoorIxk
import Derived.Test.YticjhbklcpoonaaGreatDoorSufh
namespace Go.Proofs.YticjhbklcpoonaaGreatDoor
open Go.RowKit Go.Gq
set_option maxRecDepth 100000
def KeptBool (w : World) (e : Ending) (w' : World) : Prop := ∃ b, e = .returned (.bool b) ∧ Kept w w'
def KeptInt (w : World) (e : Ending) (w' : World) : Prop := ∃ z, e = .returned (.int .i64 z) ∧ Kept w w'
abbrev sin (hi : Bool) (nm : ByteArray) (hs : Bool) (st : ByteArray) (it sl : Bool) (sk : Int) (s : ByteArray) (ek : Int) (es : ByteArray) (ir op : Bool) : Value :=
  .agg #[.bool hi, .string nm, .bool hs, .string st, .bool it, .bool sl, .int .i64 sk, .string s, .int .i64 ek, .string es, .bool ir, .bool op]
theorem suffixBytes_any (hi : Bool) (nm : ByteArray) (hs : Bool) (st : ByteArray) (it sl : Bool) (sk : Int) (s : ByteArray) (ek : Int) (es : ByteArray) (ir op : Bool) (w : World) :
    Calls Tryz.prog 19 #[sin hi nm hs st it sl sk s ek es ir op] w (KeptInt w) := by
  go_enter Tryz.func19, Tryz.ntmps19
  go_wp2
  go_ret
  exact ⟨_, rfl, kept_alloc _ _⟩
theorem isBracket_any (hi : Bool) (nm : ByteArray) (hs : Bool) (st : ByteArray) (it sl : Bool) (sk : Int) (s : ByteArray) (ek : Int) (es : ByteArray) (ir op : Bool) (w : World) :
    Calls Tryz.prog 22 #[sin hi nm hs st it sl sk s ek es ir op] w fun e w' => e = .returned (.bool (hi && nm.toList.isEmpty && !hs)) ∧ Kept w w' := by
  cases hi with
  | false =>
    go_enter Tryz.func22, Tryz.ntmps22
    go_wp2
    go_ret
    exact ⟨rfl, kept_alloc _ _⟩
  | true =>
  cases hnm : nm.toList.isEmpty with
  | false =>
    go_enter Tryz.func22, Tryz.ntmps22
    go_wp2
    go_ret
    exact ⟨rfl, kept_alloc _ _⟩
  | true =>
    go_enter Tryz.func22, Tryz.ntmps22
    go_wp2
    go_ret
    exact ⟨rfl, kept_alloc _ _⟩
theorem identByte_any (c : Int) (w : World) : Calls Tryz.prog 78 #[.int .u8 c] w (SomeBool w) := by
  go_enter Tryz.func78, Tryz.ntmps78
  go_wp2
  all_goals go_ret
  all_goals exact ⟨_, rfl, rfl⟩
theorem identTail_any (s : ByteArray) (w : World) (hs : s.size ≤ 9223372036854775807) : Calls Tryz.prog 64 #[.string s] w (SomeBool w) := by
  go_enter Tryz.func64, Tryz.ntmps64
  go_wp2
  go_loop [3] (fun i => ∃ k : Nat, k ≤ s.size ∧ i = .int .i64 k) (fun i => s.size - (intOf i).toNat)
  case atStart => exact ⟨0, Nat.zero_le _, rfl⟩
  case round =>
    obtain ⟨k, hk, rfl⟩ := hrel
    by_cases hlt : k < s.size
    · have q4 : (0 : Int) ≤ (k : Int) := by omega
      have q5 : (k : Int) < (s.size : Int) := by omega
      go_wp2_with fail
      refine (identByte_any _ w).mono ?_
      rintro e w1 ⟨b, rfl, rfl⟩
      cases b with
      | false =>
        go_wp2
        go_ret
        exact ⟨_, rfl, rfl⟩
      | true =>
        go_wp2
        go_round
        case rel => exact ⟨k + 1, by omega, by go_num⟩
        case measure => simp [intOf]; omega
    obtain rfl : k = s.size := by omega
    have q6 : (s.size : Int) ≤ (s.size : Int) := Int.le_refl _
    go_wp2
    go_ret
    exact ⟨_, rfl, rfl⟩
theorem ident_any (s : ByteArray) (w : World) (hs : s.size ≤ 9223372036854775807) : Calls Tryz.prog 47 #[.string s] w (SomeBool w) := by
  by_cases h0 : 0 < s.size
  rotate_left
  · go_enter Tryz.func47, Tryz.ntmps47
    go_wp2
    go_ret
    exact ⟨_, rfl, rfl⟩
  by_cases h1 : 48 ≤ ((s[0]'h0).toNat : Int) ∧ ((s[0]'h0).toNat : Int) ≤ 57
  · obtain ⟨h2, h3⟩ := h1
    go_enter Tryz.func47, Tryz.ntmps47
    go_wp2
    go_ret
    exact ⟨_, rfl, rfl⟩
  by_cases h2 : 48 ≤ ((s[0]'h0).toNat : Int)
  · have h3 : ¬ ((s[0]'h0).toNat : Int) ≤ 57 := fun h => h1 ⟨h2, h⟩
    go_enter Tryz.func47, Tryz.ntmps47
    go_wp2_with fail
    refine (identTail_any s w hs).mono ?_
    rintro e w1 ⟨b, rfl, rfl⟩
    go_wp2
    go_ret
    exact ⟨_, rfl, rfl⟩
  · go_enter Tryz.func47, Tryz.ntmps47
    go_wp2_with fail
    refine (identTail_any s w hs).mono ?_
    rintro e w1 ⟨b, rfl, rfl⟩
    go_wp2
    go_ret
    exact ⟨_, rfl, rfl⟩
theorem numberText_any (s : ByteArray) (w : World) (hs : s.size ≤ 9223372036854775807) : Calls Tryz.prog 65 #[.string s] w (SomeBool w) := by
  by_cases h0 : 0 < s.size
  rotate_left
  · have hz : ((s.size : Int) == 0) = true := beq_iff_eq.2 (by omega)
    go_enter Tryz.func65, Tryz.ntmps65
    go_wp2
    go_ret
    exact ⟨_, rfl, rfl⟩
  have hz : ((s.size : Int) == 0) = false := by rw [beq_eq_false_iff_ne]; omega
  by_cases h1 : ((s[0]'h0).toNat : Int) < 48
  · go_enter Tryz.func65, Tryz.ntmps65
    go_wp2
    go_ret
    exact ⟨_, rfl, rfl⟩
  by_cases h2 : 57 < ((s[0]'h0).toNat : Int)
  · go_enter Tryz.func65, Tryz.ntmps65
    go_wp2
    go_ret
    exact ⟨_, rfl, rfl⟩
  go_enter Tryz.func65, Tryz.ntmps65
  go_wp2
  go_loop [3, 4, 5] (fun t i _ => ∃ (k : Nat) (z : Int), k ≤ s.size ∧ i = .int .i64 k ∧ t = .int .i64 z) (fun _ i _ => s.size - (intOf i).toNat)
  case atStart => exact ⟨0, 0, Nat.zero_le _, rfl, rfl⟩
  case round =>
    obtain ⟨k, z, hk, rfl, rfl⟩ := hrel
    by_cases hlt : k < s.size
    · have q4 : (0 : Int) ≤ (k : Int) := by omega
      have q5 : (k : Int) < (s.size : Int) := by omega
      by_cases c1 : ((s[k]'hlt).toNat : Int) = 46
      · by_cases c2 : 1 < wrap64 (z + 1)
        · go_wp2
          go_ret
          exact ⟨_, rfl, rfl⟩
        · go_wp2
          go_round
          case rel => exact ⟨k + 1, _, by omega, by go_num, rfl⟩
          case measure => simp [intOf]; omega
      have c1b : (((s[k]'hlt).toNat : Int) == 46) = false := by simpa using c1
      by_cases c2 : ((s[k]'hlt).toNat : Int) < 48
      · go_wp2
        go_ret
        exact ⟨_, rfl, rfl⟩
      by_cases c3 : 57 < ((s[k]'hlt).toNat : Int)
      · go_wp2
        go_ret
        exact ⟨_, rfl, rfl⟩
      go_wp2
      go_round
      case rel => exact ⟨k + 1, _, by omega, by go_num, rfl⟩
      case measure => simp [intOf]; omega
    obtain rfl : k = s.size := by omega
    have q6 : (s.size : Int) ≤ (s.size : Int) := Int.le_refl _
    go_wp2
    go_ret
    exact ⟨_, rfl, rfl⟩
theorem keyOk_any (k : Int) (s : ByteArray) (b : Bool) (w : World) (hs : s.size ≤ 9223372036854775807) : Calls Tryz.prog 48 #[.int .i64 k, .string s, .bool b] w fun e w' => w = w' ∧ ∃ c, e = .returned (.bool c) ∧ (k ≠ 1 → k ≠ 2 → b = false → c = false) := by
  by_cases h0 : k = 0
  · subst h0
    go_enter Tryz.func48, Tryz.ntmps48
    go_wp2
    go_ret
    exact ⟨rfl, _, rfl, fun _ _ h => h⟩
  have h0b : (k == 0) = false := by simpa using h0
  by_cases h1 : k = 1
  · subst h1
    go_enter Tryz.func48, Tryz.ntmps48
    go_wp2_with fail
    refine (numberText_any s w hs).mono ?_
    rintro e w1 ⟨c, rfl, rfl⟩
    go_wp2
    go_ret
    exact ⟨rfl, _, rfl, fun h => absurd rfl h⟩
  have h1b : (k == 1) = false := by simpa using h1
  by_cases h2 : k = 2
  · subst h2
    go_enter Tryz.func48, Tryz.ntmps48
    go_wp2
    go_ret
    exact ⟨rfl, _, rfl, fun _ h => absurd rfl h⟩
  have h2b : (k == 2) = false := by simpa using h2
  go_enter Tryz.func48, Tryz.ntmps48
  go_wp2
  go_ret
  exact ⟨rfl, _, rfl, fun _ _ _ => rfl⟩
end Go.Proofs.YticjhbklcpoonaaGreatDoor
