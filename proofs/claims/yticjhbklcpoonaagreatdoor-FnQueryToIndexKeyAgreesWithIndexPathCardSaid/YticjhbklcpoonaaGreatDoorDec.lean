/- Decimal literals: an optional minus and one to eighteen digits; what strconv.ParseInt reads there. -/
import Derived.Lib.ParseIntB
namespace Go.Gq
open Go.Lib
/-- The number that digits spell behind acc. -/
def digs (acc : Nat) : List UInt8 → Option Nat
  | [] => some acc
  | c :: r => if 48 ≤ c.toNat ∧ c.toNat ≤ 57 then digs (acc * 10 + (c.toNat - 48)) r else none
theorem digs_take (l : List UInt8) : ∀ (k acc n : Nat) (b : UInt8), digs acc (l.take k) = some n → l[k]? = some b → 48 ≤ b.toNat ∧ b.toNat ≤ 57 → digs acc (l.take (k + 1)) = some (n * 10 + (b.toNat - 48)) := by
  induction l with
  | nil => intro k acc n b _ hb; simp at hb
  | cons a t ih =>
    intro k acc n b h hb hd
    cases k with
    | zero =>
      simp only [List.take_zero, digs, Option.some.injEq] at h
      simp only [List.getElem?_cons_zero, Option.some.injEq] at hb
      subst hb; subst h
      simp [digs, hd]
    | succ k =>
      simp only [List.take_succ_cons, digs] at h ⊢
      split at h
      · rename_i ha
        rw [if_pos ha]
        exact ih k _ n b h (by simpa using hb) hd
      · cases h
theorem digs_lt : ∀ (r : List UInt8) (acc k u : Nat), acc < 10 ^ k → digs acc r = some u → u < 10 ^ (k + r.length)
  | [], acc, k, u, ha, h => by
    simp only [digs, Option.some.injEq] at h
    subst h; simpa using ha
  | c :: r, acc, k, u, ha, h => by
    simp only [digs] at h
    split at h
    · rename_i hd
      have := digs_lt r _ (k + 1) u (by rw [Nat.pow_succ]; omega) h
      rw [List.length_cons, show k + (r.length + 1) = k + 1 + r.length by omega]
      exact this
    · cases h
theorem pow18 {k : Nat} (h : k ≤ 18) : 10 ^ k ≤ 1000000000000000000 := by
  have := Nat.pow_le_pow_right (n := 10) (by decide) h
  have e : (10 : Nat) ^ 18 = 1000000000000000000 := by decide
  omega
theorem pow17 {k : Nat} (h : k ≤ 17) : 10 ^ k ≤ 100000000000000000 := by
  have := Nat.pow_le_pow_right (n := 10) (by decide) h
  have e : (10 : Nat) ^ 17 = 100000000000000000 := by decide
  omega
theorem parseUintM_digs : ∀ (r : List UInt8) (acc k u : Nat), acc < 10 ^ k → k + r.length ≤ 18 → digs acc r = some u → parseUintM (2 ^ 64 - 1) acc r = .ok u
  | [], acc, k, u, ha, hl, h => by
    simp only [digs, Option.some.injEq] at h
    subst h; rfl
  | c :: r, acc, k, u, ha, hl, h => by
    simp only [List.length_cons] at hl
    have hp := pow17 (k := k) (by omega)
    simp only [digs] at h
    split at h
    · rename_i hd
      simp only [parseUintM]
      rw [if_pos hd, if_neg (by omega), if_neg (by omega)]
      exact parseUintM_digs r _ (k + 1) u (by rw [Nat.pow_succ]; omega) (by omega) h
    · cases h
/-- The literal's number: an optional minus, one to eighteen digits. -/
def zzDec (l : List UInt8) : Option Int :=
  match l with
  | [] => none
  | c :: r => if c.toNat = 45 then (if 1 ≤ r.length ∧ r.length ≤ 18 then (digs 0 r).map (fun (u : Nat) => -(u : Int)) else none)
    else (if (c :: r).length ≤ 18 then (digs 0 (c :: r)).map (fun (u : Nat) => (u : Int)) else none)
theorem zzDec_bd {l : List UInt8} {v : Int} (h : zzDec l = some v) : -1000000000000000000 < v ∧ v < 1000000000000000000 := by
  cases l with
  | nil => cases h
  | cons c r =>
    simp only [zzDec] at h
    split at h
    · split at h
      · rename_i hl
        obtain ⟨u, hu, rfl⟩ := Option.map_eq_some_iff.1 h
        have := digs_lt r 0 0 u (by decide) hu
        have := pow18 (k := 0 + r.length) (by omega)
        omega
      · cases h
    · split at h
      · rename_i hl
        obtain ⟨u, hu, rfl⟩ := Option.map_eq_some_iff.1 h
        have := digs_lt (c :: r) 0 0 u (by decide) hu
        have := pow18 (k := 0 + (c :: r).length) (by omega)
        omega
      · cases h
theorem parse_zzDec {l : List UInt8} {v : Int} (h : zzDec l = some v) : parseIntB 64 l = .ok v := by
  cases l with
  | nil => cases h
  | cons c r =>
    simp only [zzDec] at h
    split at h
    · rename_i hc
      split at h
      · rename_i hl
        obtain ⟨u, hu, rfl⟩ := Option.map_eq_some_iff.1 h
        have h1 := parseUintM_digs r 0 0 u (by decide) (by omega) hu
        have h2 := digs_lt r 0 0 u (by decide) hu
        have h3 := pow18 (k := 0 + r.length) (by omega)
        have hr : r ≠ [] := fun e => by subst e; simp at hl
        have e1 : parseUintB 64 r = .ok u := by unfold parseUintB; rw [if_neg hr]; exact h1
        simp only [parseIntB]
        rw [if_pos (Or.inr hc), e1]
        simp only [hc, not_true_eq_false, false_and, if_false, true_and, if_true]
        rw [if_neg (by omega)]
      · cases h
    · rename_i hc
      split at h
      · rename_i hl
        obtain ⟨u, hu, rfl⟩ := Option.map_eq_some_iff.1 h
        have h1 := parseUintM_digs (c :: r) 0 0 u (by decide) (by omega) hu
        have h2 := digs_lt (c :: r) 0 0 u (by decide) hu
        have h3 := pow18 (k := 0 + (c :: r).length) (by omega)
        have hd : 48 ≤ c.toNat ∧ c.toNat ≤ 57 := by
          simp only [digs] at hu
          split at hu
          · assumption
          · cases hu
        have e1 : parseUintB 64 (c :: r) = .ok u := by unfold parseUintB; rw [if_neg (by simp)]; exact h1
        simp only [parseIntB]
        rw [if_neg (show ¬ (c.toNat = 43 ∨ c.toNat = 45) by omega), e1]
        simp only [hc, not_false_eq_true, true_and, false_and, if_false]
        rw [if_neg (by omega)]
      · cases h
end Go.Gq
