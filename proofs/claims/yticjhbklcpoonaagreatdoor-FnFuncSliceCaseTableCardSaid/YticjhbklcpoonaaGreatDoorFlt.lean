/- Program-independent: what a float64 stands for, scaled by 2 ^ 1074; how two compare; cut to a whole number, rounded up; a whole number as a float64. -/
import GoSem.Core.Float
import Derived.Laws.FloatBits
namespace Go.Gq
open Go
theorem cut_zero (s : Bool) (n d : Nat) : Ieee.Toward.cut .zero s n d = n / 2 ^ d := by
  simp only [Ieee.Toward.cut, Nat.shiftLeft_eq, Nat.one_mul, Bool.toNat_false, Nat.add_zero]
  by_cases h : d ≤ n.log2 + 2
  · rw [Nat.min_eq_left h]
  · rw [Nat.min_eq_right (by omega)]
    have h1 : n < 2 ^ (n.log2 + 2) := Nat.lt_of_lt_of_le Nat.lt_log2_self (Nat.pow_le_pow_right (by decide) (by omega))
    have h2 : n < 2 ^ d := Nat.lt_of_lt_of_le h1 (Nat.pow_le_pow_right (by decide) (by omega))
    rw [Nat.div_eq_of_lt h1, Nat.div_eq_of_lt h2]
theorem cut_up (s : Bool) (n d : Nat) : Ieee.Toward.cut .up s n d = n / 2 ^ d + (!s && n % 2 ^ d != 0).toNat := by
  simp only [Ieee.Toward.cut, Nat.shiftLeft_eq, Nat.one_mul]
  by_cases h : d ≤ n.log2 + 2
  · rw [Nat.min_eq_left h]
  · rw [Nat.min_eq_right (by omega)]
    have h1 : n < 2 ^ (n.log2 + 2) := Nat.lt_of_lt_of_le Nat.lt_log2_self (Nat.pow_le_pow_right (by decide) (by omega))
    have h2 : n < 2 ^ d := Nat.lt_of_lt_of_le h1 (Nat.pow_le_pow_right (by decide) (by omega))
    rw [Nat.div_eq_of_lt h1, Nat.div_eq_of_lt h2, Nat.mod_eq_of_lt h1, Nat.mod_eq_of_lt h2]
def sg (s : Bool) (N : Nat) : Int := if s then -(N : Int) else (N : Int)
theorem ex_kk : ∃ k : Nat, k = 1074 := ⟨_, rfl⟩
noncomputable def kk : Nat := Classical.choose ex_kk
theorem kk_eq : kk = 1074 := Classical.choose_spec ex_kk
/-- The scale. -/
noncomputable def sc : Nat := 2 ^ kk
theorem sc_pos : 0 < sc := Nat.two_pow_pos _
theorem sc_eq : sc = 2 ^ ((0 : Int) + 1074).toNat := by unfold sc; congr 1; rw [kk_eq]; rfl
/-- x stands for N / 2 ^ 1074, negated if s. -/
def FNum (x : Nat) (s : Bool) (N : Nat) : Prop := ∃ m i, Ieee.double.read x = .number s m i ∧ -1074 ≤ i ∧ N = m * 2 ^ (i + 1074).toNat
theorem read_cases (x : Nat) : (∃ s t, Ieee.double.read x = .nan s t ∧ 0 < t ∧ t < 2 ^ 52) ∨ (∃ s, Ieee.double.read x = .infinity s) ∨ ∃ s N, FNum x s N := by
  have hp : Ieee.double.leastPlace = -1074 := by decide
  have hb : Ieee.double.binade = 2 ^ 52 := by decide
  have hi : Ieee.double.infRung = 2047 * 2 ^ 52 := by decide
  have hw : Ieee.double.signWeight = 2 ^ 63 := by decide
  unfold FNum
  unfold Ieee.Format.read
  rw [hp, hb, hi, hw]
  dsimp only
  have hr : x % 2 ^ 63 < 2 ^ 63 := Nat.mod_lt _ (by decide)
  by_cases h1 : x % 2 ^ 63 < 2 ^ 52
  · rw [if_pos h1]
    exact .inr (.inr ⟨_, _, _, _, rfl, by omega, rfl⟩)
  rw [if_neg h1]
  by_cases h2 : x % 2 ^ 63 < 2047 * 2 ^ 52
  · rw [if_pos h2]
    exact .inr (.inr ⟨_, _, _, _, rfl, by omega, rfl⟩)
  rw [if_neg h2]
  by_cases h3 : x % 2 ^ 63 = 2047 * 2 ^ 52
  · rw [if_pos h3]
    exact .inr (.inl ⟨_, rfl⟩)
  rw [if_neg h3]
  exact .inl ⟨_, _, rfl, by omega, by omega⟩
theorem pow_split (i b : Int) (hb : -1074 ≤ b) (h : b ≤ i) : 2 ^ (i + 1074).toNat = 2 ^ (i - b).toNat * 2 ^ (b + 1074).toNat := by
  rw [← Nat.pow_add]; congr 1; omega
theorem cmp_mul (a b : Int) (c : Nat) (hc : 0 < c) : compare (a * (c : Int)) (b * (c : Int)) = compare a b := by
  have hc' : (0 : Int) < (c : Int) := by omega
  rcases Int.lt_trichotomy a b with h | h | h
  · have := Int.mul_lt_mul_of_pos_right h hc'
    simp only [compare, compareOfLessAndEq, this, h, if_true]
  · subst h; simp [compare, compareOfLessAndEq]
  · have := Int.mul_lt_mul_of_pos_right h hc'
    have e1 : ¬ a < b := by omega
    have e2 : ¬ a * (c : Int) < b * (c : Int) := by omega
    have e3 : a ≠ b := by omega
    have e4 : a * (c : Int) ≠ b * (c : Int) := by omega
    simp only [compare, compareOfLessAndEq, e1, e2, e3, e4, if_false]
theorem signed_sg (s : Bool) (m : Nat) (i b : Int) (hb : -1074 ≤ b) (h : b ≤ i) : sg s (m * 2 ^ (i + 1074).toNat) = Ieee.signed s m (i - b).toNat * ((2 ^ (b + 1074).toNat : Nat) : Int) := by
  rw [pow_split i b hb h]
  unfold sg Ieee.signed
  rw [Nat.shiftLeft_eq, ← Nat.mul_assoc]
  cases s
  · simp
  · simp [Int.neg_mul]
theorem order_num {x y : Nat} {s t : Bool} {N M : Nat} (hx : FNum x s N) (hy : FNum y t M) : Ieee.double.order x y = some (compare (sg s N) (sg t M)) := by
  obtain ⟨m, i, e1, h1, rfl⟩ := hx
  obtain ⟨n, j, e2, h2, rfl⟩ := hy
  unfold Ieee.Format.order
  rw [e1, e2]
  simp only [Ieee.Datum.order]
  rw [signed_sg s m i (min i j) (by omega) (by omega), signed_sg t n j (min i j) (by omega) (by omega), cmp_mul _ _ _ (Nat.two_pow_pos _)]
theorem div_sc (m : Nat) (i : Int) (h : -1074 ≤ i) : (m <<< i.toNat) / 2 ^ (-i).toNat = m * 2 ^ (i + 1074).toNat / sc ∧ ((m <<< i.toNat) % 2 ^ (-i).toNat = 0 ↔ m * 2 ^ (i + 1074).toNat % sc = 0) := by
  rw [Nat.shiftLeft_eq]
  unfold sc
  by_cases h0 : 0 ≤ i
  · rw [show (-i).toNat = 0 by omega, show (i + 1074).toNat = i.toNat + kk by rw [kk_eq]; omega, Nat.pow_add, ← Nat.mul_assoc, Nat.mul_div_cancel _ (Nat.two_pow_pos _), Nat.mul_mod_left]
    simp [Nat.mod_one]
  · have e : (2 : Nat) ^ kk = 2 ^ (-i).toNat * 2 ^ (i + 1074).toNat := by rw [← Nat.pow_add, kk_eq]; congr 1; omega
    rw [show i.toNat = 0 by omega, e, Nat.pow_zero, Nat.mul_one, Nat.mul_div_mul_right _ _ (Nat.two_pow_pos _), Nat.mul_mod_mul_right]
    refine ⟨rfl, ?_⟩
    have := Nat.two_pow_pos (i + 1074).toNat
    constructor
    · intro h; rw [h, Nat.zero_mul]
    · intro h
      rcases Nat.mul_eq_zero.1 h with h | h
      · exact h
      · omega
theorem toInt_num {x : Nat} {s : Bool} {N : Nat} (hx : FNum x s N) : (FloatKind.f64.decode x).toInt .zero = some (sg s (N / sc)) := by
  obtain ⟨m, i, e1, h1, rfl⟩ := hx
  show (Ieee.double.read x).toInt .zero = _
  rw [e1]
  simp only [Ieee.Datum.toInt, Ieee.Datum.integral, cut_zero, (div_sc m i h1).1]
  simp [Ieee.signed, sg]
theorem up_num {x : Nat} {s : Bool} {N : Nat} (hx : FNum x s N) : (FloatKind.f64.decode x).integral .up = .number s (N / sc + (!s && N % sc != 0).toNat) 0 := by
  obtain ⟨m, i, e1, h1, rfl⟩ := hx
  show (Ieee.double.read x).integral .up = _
  rw [e1]
  simp only [Ieee.Datum.integral, cut_up, (div_sc m i h1).1]
  have := (div_sc m i h1).2
  congr 2
  congr 2
  by_cases h : (m <<< i.toNat) % 2 ^ (-i).toNat = 0
  · rw [h, this.1 h]
  · have h2 : ¬ m * 2 ^ (i + 1074).toNat % sc = 0 := fun e => h (this.2 e)
    have a1 : ((m <<< i.toNat) % 2 ^ (-i).toNat == 0) = false := by simpa using h
    have a2 : (m * 2 ^ (i + 1074).toNat % sc == 0) = false := by simpa using h2
    simp only [bne, a1, a2]
theorem dbl : Ieee.double.leastPlace = -1074 ∧ Ieee.double.binade = 2 ^ 52 ∧ Ieee.double.infRung = 2047 * 2 ^ 52 ∧ Ieee.double.signWeight = 2 ^ 63 ∧ Ieee.double.fractionBits = 52 := by decide
theorem read_word (s : Bool) (r : Nat) (h : r < 2 ^ 63) : Ieee.double.read (Ieee.double.word s r) = if r < 2 ^ 52 then .number s r (-1074) else if r < 2047 * 2 ^ 52 then .number s (2 ^ 52 + r % 2 ^ 52) (-1074 + (r / 2 ^ 52 - 1 : Nat)) else if r = 2047 * 2 ^ 52 then .infinity s else .nan s (r - 2047 * 2 ^ 52) := by
  obtain ⟨hp, hb, hi, hw, _⟩ := dbl
  unfold Ieee.Format.read Ieee.Format.word
  rw [hp, hb, hi, hw]
  dsimp only
  cases s with
  | false =>
    simp only [Bool.false_eq_true, if_false]
    rw [Nat.mod_eq_of_lt h, Nat.div_eq_of_lt h]
    rfl
  | true =>
    have e1 : (2 ^ 63 + r) % 2 ^ 63 = r := by rw [Nat.add_mod_left, Nat.mod_eq_of_lt h]
    have e2 : (2 ^ 63 + r) / 2 ^ 63 = 1 := by omega
    rw [if_pos rfl, e1, e2]
    rfl
theorem num_zero (s : Bool) : FNum (Ieee.double.write (.number s 0 0)) s 0 := by
  refine ⟨0, -1074, ?_, by omega, by simp⟩
  show Ieee.double.read (Ieee.double.nearest s 0 0) = _
  unfold Ieee.Format.nearest
  rw [if_pos rfl, read_word s 0 (by decide), if_pos (by decide)]
theorem num_exact (s : Bool) (q : Nat) (hq : q < 2 ^ 53) : FNum (Ieee.double.write (.number s q 0)) s (q * sc) := by
  rcases Nat.eq_zero_or_pos q with h0 | h0
  · subst h0; rw [Nat.zero_mul]; exact num_zero s
  obtain ⟨hp, hb, hi, hw, hf⟩ := dbl
  have l1 : q.log2 ≤ 52 := by have := (Nat.log2_lt (by omega)).2 hq; omega
  have l2 : 2 ^ q.log2 ≤ q := Nat.log2_self_le (by omega)
  have l3 : q < 2 ^ (q.log2 + 1) := Nat.lt_log2_self
  unfold FNum
  show ∃ m i, Ieee.double.read (Ieee.double.nearest s q 0) = _ ∧ _
  unfold Ieee.Format.nearest
  rw [if_neg (by omega), hp, hb, hi, hf]
  dsimp only
  generalize q.log2 = l at *
  rw [show max (0 + (l : Int) - ((52 : Nat) : Int)) (-1074) = (l : Int) - 52 by omega]
  rw [show (((l : Int) - 52) - 0).toNat = 0 by omega, show (0 - ((l : Int) - 52)).toNat = 52 - l by omega, show ((l : Int) - 52 - -1074).toNat = l + 1022 by omega, Nat.shiftLeft_eq]
  have k1 : q * 2 ^ (52 - l) < 2 ^ 53 := by
    have : q * 2 ^ (52 - l) < 2 ^ (l + 1) * 2 ^ (52 - l) := Nat.mul_lt_mul_of_pos_right l3 (Nat.two_pow_pos _)
    rw [← Nat.pow_add, show l + 1 + (52 - l) = 53 by omega] at this
    exact this
  have k2 : 2 ^ 52 ≤ q * 2 ^ (52 - l) := by
    have : 2 ^ l * 2 ^ (52 - l) ≤ q * 2 ^ (52 - l) := Nat.mul_le_mul_right _ l2
    rw [← Nat.pow_add, show l + (52 - l) = 52 by omega] at this
    exact this
  have hN : q * sc = q * 2 ^ (52 - l) * 2 ^ (((l : Int) - 52) + 1074).toNat := by
    rw [sc_eq, pow_split 0 ((l : Int) - 52) (by omega) (by omega), show (0 - ((l : Int) - 52)).toNat = 52 - l by omega, Nat.mul_assoc]
  rw [hN]
  generalize q * 2 ^ (52 - l) = κ at *
  have hc : Ieee.Toward.cut .even s κ 0 = κ := by
    simp [Ieee.Toward.cut, Nat.mod_one]
  rw [hc, Nat.min_eq_left (by omega), read_word s _ (by omega), if_neg (by omega), if_pos (by omega)]
  have e1 : ((l + 1022) * 2 ^ 52 + κ) / 2 ^ 52 = l + 1023 := by omega
  have e2 : ((l + 1022) * 2 ^ 52 + κ) % 2 ^ 52 = κ - 2 ^ 52 := by omega
  rw [e1, e2]
  refine ⟨_, _, rfl, by omega, ?_⟩
  rw [show 2 ^ 52 + (κ - 2 ^ 52) = κ by omega, show (-1074 + ((l + 1023 - 1 : Nat) : Int) + 1074).toNat = (((l : Int) - 52) + 1074).toNat by omega]
theorem num_big (s : Bool) (q : Nat) (hq : 2 ^ 53 ≤ q) : (Ieee.double.read (Ieee.double.write (.number s q 0)) = .infinity s) ∨ ∃ N, FNum (Ieee.double.write (.number s q 0)) s N ∧ 2 ^ 52 * sc ≤ N := by
  obtain ⟨hp, hb, hi, hw, hf⟩ := dbl
  have l1 : 53 ≤ q.log2 := (Nat.le_log2 (by omega)).2 hq
  have l2 : 2 ^ q.log2 ≤ q := Nat.log2_self_le (by omega)
  have l3 : q < 2 ^ (q.log2 + 1) := Nat.lt_log2_self
  unfold FNum
  show Ieee.double.read (Ieee.double.nearest s q 0) = _ ∨ ∃ N, (∃ m i, Ieee.double.read (Ieee.double.nearest s q 0) = _ ∧ _) ∧ _
  unfold Ieee.Format.nearest
  rw [if_neg (by omega), hp, hb, hi, hf]
  dsimp only
  rw [show max (0 + (q.log2 : Int) - ((52 : Nat) : Int)) (-1074) = (q.log2 : Int) - 52 by omega]
  rw [show (((q.log2 : Int) - 52) - 0).toNat = q.log2 - 52 by omega, show (0 - ((q.log2 : Int) - 52)).toNat = 0 by omega, show ((q.log2 : Int) - 52 - -1074).toNat = q.log2 + 1022 by omega, Nat.shiftLeft_eq, Nat.pow_zero, Nat.mul_one]
  obtain ⟨κ, hκ, hk1⟩ : ∃ κ, Ieee.Toward.cut .even s q (q.log2 - 52) = κ ∧ 2 ^ 52 ≤ κ ∧ κ ≤ 2 ^ 53 := by
    refine ⟨_, rfl, ?_⟩
    simp only [Ieee.Toward.cut, Nat.shiftLeft_eq, Nat.one_mul]
    rw [Nat.min_eq_left (by omega)]
    have a1 : 2 ^ 52 ≤ q / 2 ^ (q.log2 - 52) := by
      rw [Nat.le_div_iff_mul_le (Nat.two_pow_pos _), ← Nat.pow_add, show 52 + (q.log2 - 52) = q.log2 by omega]
      exact l2
    have a2 : q / 2 ^ (q.log2 - 52) < 2 ^ 53 := by
      rw [Nat.div_lt_iff_lt_mul (Nat.two_pow_pos _), ← Nat.pow_add, show 53 + (q.log2 - 52) = q.log2 + 1 by omega]
      exact l3
    have a3 : ∀ b : Bool, b.toNat ≤ 1 := fun b => by cases b <;> decide
    have := a3 (decide (2 ^ (q.log2 - 52) < 2 * (q % 2 ^ (q.log2 - 52))) || 2 ^ (q.log2 - 52) == 2 * (q % 2 ^ (q.log2 - 52)) && q / 2 ^ (q.log2 - 52) % 2 == 1)
    omega
  rw [hκ]
  generalize q.log2 = l at *
  by_cases hbig : (l + 1022) * 2 ^ 52 + κ < 2047 * 2 ^ 52
  · right
    rw [Nat.min_eq_left (by omega), read_word s _ (by omega), if_neg (by omega), if_pos hbig]
    refine ⟨_, ⟨_, _, rfl, by omega, rfl⟩, ?_⟩
    have e1 : 1076 ≤ ((l + 1022) * 2 ^ 52 + κ) / 2 ^ 52 := by
      rw [Nat.le_div_iff_mul_le (Nat.two_pow_pos _)]
      clear l2 l3 hκ hbig hq
      omega
    generalize ((l + 1022) * 2 ^ 52 + κ) / 2 ^ 52 = y at *
    generalize ((l + 1022) * 2 ^ 52 + κ) % 2 ^ 52 = z at *
    clear l2 l3 hκ hbig hq hk1
    refine Nat.mul_le_mul (Nat.le_add_right _ _) ?_
    rw [sc_eq]
    refine Nat.pow_le_pow_right (by decide) ?_
    omega
  · left
    rw [Nat.min_eq_right (by omega), read_word s _ (by decide), if_neg (by decide), if_neg (by decide), if_pos rfl]
theorem num_1e15 : FNum 4831355200913801216 false (1000000000000000 * sc) := by
  refine ⟨8000000000000000, -3, by decide +kernel, by omega, ?_⟩
  rw [sc_eq, pow_split 0 (-3) (by omega) (by omega), ← Nat.mul_assoc, show (1000000000000000 : Nat) * 2 ^ ((0 : Int) - -3).toNat = 8000000000000000 by decide]
theorem num_m1e15 : FNum 14054727237768577024 true (1000000000000000 * sc) := by
  refine ⟨8000000000000000, -3, by decide +kernel, by omega, ?_⟩
  rw [sc_eq, pow_split 0 (-3) (by omega) (by omega), ← Nat.mul_assoc, show (1000000000000000 : Nat) * 2 ^ ((0 : Int) - -3).toNat = 8000000000000000 by decide]
theorem num_m63 : FNum 14114281232179134464 true (9223372036854775808 * sc) := by
  refine ⟨4503599627370496, 11, by decide +kernel, by omega, ?_⟩
  rw [sc_eq, pow_split 11 0 (by omega) (by omega), ← Nat.mul_assoc, show (4503599627370496 : Nat) * 2 ^ ((11 : Int) - 0).toNat = 9223372036854775808 by decide]
theorem num_63 : FNum 4890909195324358656 false (9223372036854775808 * sc) := by
  refine ⟨4503599627370496, 11, by decide +kernel, by omega, ?_⟩
  rw [sc_eq, pow_split 11 0 (by omega) (by omega), ← Nat.mul_assoc, show (4503599627370496 : Nat) * 2 ^ ((11 : Int) - 0).toNat = 9223372036854775808 by decide]
theorem num_0 : FNum 0 false 0 := ⟨0, -1074, by decide +kernel, by omega, by simp⟩
end Go.Gq
