/- The laws' own objects: each key to its last position; the guards on strings. -/
import Derived.Test.YtlchcilkdenjeaaGreatDoorUpdn
import Derived.Test.YtlchcilkdenjeaaGreatDoorLawf
import Derived.Test.YtlchcilkdenjeaaGreatDoorDelo
namespace Go.Proofs.YtlchcilkdenjeaaGreatDoor
open Go.RowKit Go.Gq
set_option maxRecDepth 100000
theorem beq_yes (s : ByteArray) : (s.toList == s.toList) = true := by simp
theorem beq_no {s t : ByteArray} (h : s ≠ t) : (s.toList == t.toList) = false := by
  rw [beq_eq_false_iff_ne]
  intro e
  rw [ByteArray.toList_eq, ByteArray.toList_eq] at e
  apply h
  cases s; cases t
  simp at e
  rw [e]
theorem len_set {l L0 : List (ByteArray × Value)} {key : ByteArray} {v : Value} (h : ND l) (h0 : ND L0) (hl : ∀ x, lkp x l = if x = key then some v else lkp x L0) : l.length = if (lkp key L0).isSome then L0.length else L0.length + 1 := by
  rw [← length_aput key v L0]
  refine same_length h (nd_aput _ _ _ h0) fun x => ?_
  rw [hl x, lkp_aput]
/-- The last position, among the first q, of a key. -/
def lastI (s : Nat → ByteArray) : Nat → ByteArray → Option Nat
  | 0, _ => none
  | q + 1, x => if x = s q then some q else lastI s q x
/-- Each key to f of its last position. -/
def mapN (f : Nat → Value) (s : Nat → ByteArray) : Nat → List (ByteArray × Value)
  | 0 => []
  | q + 1 => aput (s q) (f q) (mapN f s q)
abbrev fA : Nat → Value := fun q => ib q
abbrev fI : Nat → Value := fun q => .int .i64 q
theorem lkp_mapN (f : Nat → Value) (s : Nat → ByteArray) : ∀ (q : Nat) (x : ByteArray), lkp x (mapN f s q) = (lastI s q x).map f
  | 0, x => rfl
  | q + 1, x => by
    simp only [mapN, lkp_aput, lastI]
    split
    · rfl
    · exact lkp_mapN f s q x
theorem nd_mapN (f : Nat → Value) (s : Nat → ByteArray) : ∀ q, ND (mapN f s q)
  | 0 => List.nodup_nil
  | q + 1 => nd_aput _ _ _ (nd_mapN f s q)
theorem len_mapN (f : Nat → Value) (s : Nat → ByteArray) : ∀ q, (mapN f s q).length ≤ q
  | 0 => Nat.le_refl _
  | q + 1 => by
    have := len_mapN f s q
    simp only [mapN, length_aput]; split <;> omega
theorem lastI_has (s : Nat → ByteArray) : ∀ (q p : Nat), p < q → ∃ r, lastI s q (s p) = some r ∧ p ≤ r ∧ r < q
  | 0, p, h => absurd h (Nat.not_lt_zero _)
  | q + 1, p, h => by
    simp only [lastI]
    by_cases e : s p = s q
    · rw [if_pos e]; exact ⟨q, rfl, by omega, by omega⟩
    · rw [if_neg e]
      have hp : p < q := by
        rcases Nat.lt_or_ge p q with h1 | h1
        · exact h1
        · have : p = q := by omega
          subst this; exact absurd rfl e
      obtain ⟨r, h1, h2, h3⟩ := lastI_has s q p hp
      exact ⟨r, h1, h2, by omega⟩
theorem zeroInt (w : World) : (zeroValue 3).run Tryz.prog w = .ok (.int .i64 0) w := by kernel_rfl
theorem make_objH (n : Int) (W : World) : (Instr.makeMap 41 (some (.int .i64 n))).run Tryz.prog W = .ok (.map (some W.heap.size)) (W.alloc (.map #[] 0)) := by
  simp [Instr.makeMap, run_underlying Tryz.underlying41, asInt, asIntOf]
theorem make_intH (n : Int) (W : World) : (Instr.makeMap 50 (some (.int .i64 n))).run Tryz.prog W = .ok (.map (some W.heap.size)) (W.alloc (.map #[] 0)) := by
  simp [Instr.makeMap, run_underlying Tryz.underlying50, asInt, asIntOf]
/-- An int, and nothing written. -/
def SomeInt (w : World) (e : Ending) (w' : World) : Prop := ∃ z, e = .returned (.int .i64 z) ∧ w = w'
set_option maxHeartbeats 1000000 in
theorem zzStrBytes_any (a0 : Option Addr) (n0 c0 : Nat) (s : Nat → ByteArray) (w : World) (h0 : Rd w a0 n0 (fun i => .string (s i))) (hn : n0 ≤ 9223372036854775807) :
    Calls Tryz.prog 31 #[.slice a0 n0 c0] w (SomeInt w) := by
  have H0 := Lib.hid h0
  clear h0
  go_enter Tryz.func31, Tryz.ntmps31
  go_wp2
  go_loop [3, 4] (fun t i => ∃ (k : Nat) (z : Int), k ≤ n0 ∧ i = .int .i64 k ∧ t = .int .i64 z) (fun _ i => n0 - (intOf i).toNat)
  case atStart => exact ⟨0, _, Nat.zero_le _, rfl, rfl⟩
  case round =>
    obtain ⟨k, z, hk, rfl, rfl⟩ := hrel
    by_cases hlt : k < n0
    · obtain ⟨b, off, e1, hc⟩ := H0.out.at hlt
      subst e1
      obtain ⟨x, hx⟩ : ∃ x, x = s k := ⟨_, rfl⟩
      rw [← hx] at hc
      clear hx
      go_wp2
      go_round
      case rel => exact ⟨k + 1, _, by omega, by go_num, rfl⟩
      case measure => simp [intOf]; omega
    · go_wp2
      go_ret
      exact ⟨_, rfl, rfl⟩
end Go.Proofs.YtlchcilkdenjeaaGreatDoor
