/- Program-independent: where a string's runes start; the width of a rune, byte by byte. -/
import Derived.Lib.RuneCount
import Derived.Laws.IdiomStrings
namespace Go.Gq
open Go
/-- The width of the rune whose bytes are b0, b1, b2, b3, of which n are there. -/
def wd (n b0 b1 b2 b3 : Nat) : Nat :=
  if b0 < 128 then 1
  else if 194 ≤ b0 ∧ b0 ≤ 223 then (if 2 ≤ n ∧ 128 ≤ b1 ∧ b1 ≤ 191 then 2 else 1)
  else if b0 = 224 then (if 3 ≤ n ∧ 160 ≤ b1 ∧ b1 ≤ 191 ∧ 128 ≤ b2 ∧ b2 ≤ 191 then 3 else 1)
  else if b0 = 237 then (if 3 ≤ n ∧ 128 ≤ b1 ∧ b1 ≤ 159 ∧ 128 ≤ b2 ∧ b2 ≤ 191 then 3 else 1)
  else if 225 ≤ b0 ∧ b0 ≤ 239 then (if 3 ≤ n ∧ 128 ≤ b1 ∧ b1 ≤ 191 ∧ 128 ≤ b2 ∧ b2 ≤ 191 then 3 else 1)
  else if b0 = 240 then (if 4 ≤ n ∧ 144 ≤ b1 ∧ b1 ≤ 191 ∧ 128 ≤ b2 ∧ b2 ≤ 191 ∧ 128 ≤ b3 ∧ b3 ≤ 191 then 4 else 1)
  else if b0 = 244 then (if 4 ≤ n ∧ 128 ≤ b1 ∧ b1 ≤ 143 ∧ 128 ≤ b2 ∧ b2 ≤ 191 ∧ 128 ≤ b3 ∧ b3 ≤ 191 then 4 else 1)
  else if 241 ≤ b0 ∧ b0 ≤ 243 then (if 4 ≤ n ∧ 128 ≤ b1 ∧ b1 ≤ 191 ∧ 128 ≤ b2 ∧ b2 ≤ 191 ∧ 128 ≤ b3 ∧ b3 ≤ 191 then 4 else 1)
  else 1
theorem valid_nat (c : Nat) : Utf8.valid (c : Int) = decide (c < 55296 ∨ (57343 < c ∧ c ≤ 1114111)) := by
  rw [validRune_eq]; unfold validRune
  by_cases h : c < 55296 ∨ (57343 < c ∧ c ≤ 1114111)
  · rw [decide_eq_true h, decide_eq_true (by omega)]
  · rw [decide_eq_false h, decide_eq_false (by omega)]
def bt (s : ByteArray) (i : Nat) : Nat := (s.get! i).toNat
theorem bt_lt (s : ByteArray) (i : Nat) : bt s i < 256 := (s.get! i).toNat_lt
theorem bt_at (s : ByteArray) (i : Nat) (h : i < s.size) : (s[i]'h).toNat = bt s i := by
  have := get_at s i h
  rw [Nat.add_zero] at this
  unfold bt; rw [this]
theorem decode_wd (s : ByteArray) (i : Nat) (hi : i < s.size) : (Utf8.decode s i).2 = wd (s.size - i) (bt s i) (bt s (i + 1)) (bt s (i + 2)) (bt s (i + 3)) := by
  have h0 := bt_lt s i; have h1 := bt_lt s (i + 1); have h2 := bt_lt s (i + 2); have h3 := bt_lt s (i + 3)
  simp only [Utf8.decode]
  have hg : ∀ j, (s.get! j).toNat = bt s j := fun _ => rfl
  simp only [Nat.add_zero, hg]
  generalize bt s i = b0 at *
  generalize bt s (i + 1) = b1 at *
  generalize bt s (i + 2) = b2 at *
  generalize bt s (i + 3) = b3 at *
  obtain ⟨n, hn⟩ : ∃ n, n = s.size - i := ⟨_, rfl⟩
  have e1 : (i + 1 < s.size) = (1 < n) := by rw [hn]; apply propext; omega
  have e2 : (i + 2 < s.size) = (2 < n) := by rw [hn]; apply propext; omega
  have e3 : (i + 3 < s.size) = (3 < n) := by rw [hn]; apply propext; omega
  simp only [e1, e2, e3, ← hn, valid_nat]
  clear e1 e2 e3 hn hi
  unfold wd
  simp only [Bool.and_eq_true, decide_eq_true_eq, beq_iff_eq]
  by_cases c0 : b0 < 128
  · rw [if_pos c0, if_pos c0]
  rw [if_neg c0, if_neg c0]
  by_cases c1 : b0 / 32 = 6
  · rw [if_neg (show ¬ b0 = 224 by omega), if_neg (show ¬ b0 = 237 by omega), if_neg (show ¬ (225 ≤ b0 ∧ b0 ≤ 239) by omega), if_neg (show ¬ b0 = 240 by omega), if_neg (show ¬ b0 = 244 by omega), if_neg (show ¬ (241 ≤ b0 ∧ b0 ≤ 243) by omega)]
    rw [if_neg (show ¬ ((b0 / 16 = 14 ∧ 1 < n ∧ b1 / 64 = 2) ∧ 2 < n ∧ b2 / 64 = 2) by omega), if_neg (show ¬ (((b0 / 8 = 30 ∧ 1 < n ∧ b1 / 64 = 2) ∧ 2 < n ∧ b2 / 64 = 2) ∧ 3 < n ∧ b3 / 64 = 2) by omega)]
    by_cases c2 : 1 < n ∧ b1 / 64 = 2
    · rw [if_pos ⟨c1, c2⟩]
      by_cases c3 : 194 ≤ b0
      · rw [if_pos (show b0 % 32 * 64 + b1 % 64 ≥ 128 by omega), if_pos (show 194 ≤ b0 ∧ b0 ≤ 223 by omega), if_pos (by omega)]
      · rw [if_neg (show ¬ b0 % 32 * 64 + b1 % 64 ≥ 128 by omega), if_neg (show ¬ (194 ≤ b0 ∧ b0 ≤ 223) by omega)]
    · rw [if_neg (fun h => c2 h.2)]
      split
      · rw [if_neg (by omega)]
      · rfl
  rw [if_neg (show ¬ (b0 / 32 = 6 ∧ 1 < n ∧ b1 / 64 = 2) from fun h => c1 h.1), if_neg (show ¬ (194 ≤ b0 ∧ b0 ≤ 223) by omega)]
  by_cases c4 : b0 / 16 = 14
  · rw [if_neg (show ¬ (((b0 / 8 = 30 ∧ 1 < n ∧ b1 / 64 = 2) ∧ 2 < n ∧ b2 / 64 = 2) ∧ 3 < n ∧ b3 / 64 = 2) by omega)]
    rw [if_neg (show ¬ b0 = 240 by omega), if_neg (show ¬ b0 = 244 by omega), if_neg (show ¬ (241 ≤ b0 ∧ b0 ≤ 243) by omega)]
    by_cases c5 : (1 < n ∧ b1 / 64 = 2) ∧ 2 < n ∧ b2 / 64 = 2
    · rw [if_pos (show (b0 / 16 = 14 ∧ 1 < n ∧ b1 / 64 = 2) ∧ 2 < n ∧ b2 / 64 = 2 from ⟨⟨c4, c5.1⟩, c5.2⟩)]
      obtain ⟨v, hv⟩ : ∃ v, v = b0 % 16 * 4096 + b1 % 64 * 64 + b2 % 64 := ⟨_, rfl⟩
      rw [← hv]
      by_cases c6 : v ≥ 2048 ∧ (v < 55296 ∨ 57343 < v ∧ v ≤ 1114111)
      · rw [if_pos c6]
        by_cases d0 : b0 = 224
        · rw [if_pos d0, if_pos (by omega)]
        rw [if_neg d0]
        by_cases d1 : b0 = 237
        · rw [if_pos d1, if_pos (by omega)]
        rw [if_neg d1, if_pos (by omega), if_pos (by omega)]
      · rw [if_neg c6]
        by_cases d0 : b0 = 224
        · rw [if_pos d0, if_neg (by omega)]
        rw [if_neg d0]
        by_cases d1 : b0 = 237
        · rw [if_pos d1, if_neg (by omega)]
        rw [if_neg d1, if_pos (by omega), if_neg (by omega)]
    · rw [if_neg (show ¬ ((b0 / 16 = 14 ∧ 1 < n ∧ b1 / 64 = 2) ∧ 2 < n ∧ b2 / 64 = 2) from fun h => c5 ⟨h.1.2, h.2⟩)]
      by_cases d0 : b0 = 224
      · rw [if_pos d0, if_neg (by omega)]
      rw [if_neg d0]
      by_cases d1 : b0 = 237
      · rw [if_pos d1, if_neg (by omega)]
      rw [if_neg d1, if_pos (by omega), if_neg (by omega)]
  rw [if_neg (show ¬ ((b0 / 16 = 14 ∧ 1 < n ∧ b1 / 64 = 2) ∧ 2 < n ∧ b2 / 64 = 2) from fun h => c4 h.1.1)]
  rw [if_neg (show ¬ b0 = 224 by omega), if_neg (show ¬ b0 = 237 by omega), if_neg (show ¬ (225 ≤ b0 ∧ b0 ≤ 239) by omega)]
  by_cases c7 : ((b0 / 8 = 30 ∧ 1 < n ∧ b1 / 64 = 2) ∧ 2 < n ∧ b2 / 64 = 2) ∧ 3 < n ∧ b3 / 64 = 2
  · rw [if_pos c7]
    obtain ⟨v, hv⟩ : ∃ v, v = b0 % 8 * 262144 + b1 % 64 * 4096 + b2 % 64 * 64 + b3 % 64 := ⟨_, rfl⟩
    rw [← hv]
    by_cases c6 : v ≥ 65536 ∧ (v < 55296 ∨ 57343 < v ∧ v ≤ 1114111)
    · rw [if_pos c6]
      by_cases d0 : b0 = 240
      · rw [if_pos d0, if_pos (by omega)]
      rw [if_neg d0]
      by_cases d1 : b0 = 244
      · rw [if_pos d1, if_pos (by omega)]
      rw [if_neg d1, if_pos (by omega), if_pos (by omega)]
    · rw [if_neg c6]
      by_cases d0 : b0 = 240
      · rw [if_pos d0, if_neg (by omega)]
      rw [if_neg d0]
      by_cases d1 : b0 = 244
      · rw [if_pos d1, if_neg (by omega)]
      rw [if_neg d1, if_neg (by omega)]
  · rw [if_neg c7]
    by_cases d0 : b0 = 240
    · rw [if_pos d0, if_neg (by omega)]
    rw [if_neg d0]
    by_cases d1 : b0 = 244
    · rw [if_pos d1, if_neg (by omega)]
    rw [if_neg d1]
    split
    · rw [if_neg (by omega)]
    · rfl
theorem wd_bd (n b0 b1 b2 b3 : Nat) (hn : 1 ≤ n) : 1 ≤ wd n b0 b1 b2 b3 ∧ wd n b0 b1 b2 b3 ≤ n ∧ wd n b0 b1 b2 b3 ≤ 4 := by
  unfold wd
  repeat' split
  all_goals omega
/-- The width of the rune at i. -/
def rw1 (s : ByteArray) (i : Nat) : Nat := (Utf8.decode s i).2
theorem rw1_pos (s : ByteArray) (i : Nat) (h : i < s.size) : 1 ≤ rw1 s i := Lib.decode_width_pos s i h
theorem rw1_le (s : ByteArray) (i : Nat) (h : i < s.size) : i + rw1 s i ≤ s.size := by
  have := wd_bd (s.size - i) (bt s i) (bt s (i + 1)) (bt s (i + 2)) (bt s (i + 3)) (by omega)
  unfold rw1; rw [decode_wd s i h]; omega
/-- Where the k-th rune starts (behind the last one: the string's end). -/
def rpos (s : ByteArray) : Nat → Nat
  | 0 => 0
  | k + 1 => if rpos s k < s.size then rpos s k + rw1 s (rpos s k) else s.size
theorem rpos_le (s : ByteArray) : ∀ k, rpos s k ≤ s.size
  | 0 => Nat.zero_le _
  | k + 1 => by
    unfold rpos
    split
    · rename_i h; exact rw1_le s _ h
    · exact Nat.le_refl _
theorem rpos_succ (s : ByteArray) (k : Nat) (h : rpos s k < s.size) : rpos s (k + 1) = rpos s k + rw1 s (rpos s k) := by rw [rpos, if_pos h]
theorem rpos_end (s : ByteArray) (k : Nat) (h : ¬ rpos s k < s.size) : rpos s (k + 1) = s.size := by rw [rpos, if_neg h]
theorem rpos_lt (s : ByteArray) (k : Nat) (h : rpos s k < s.size) : rpos s k < rpos s (k + 1) := by
  rw [rpos_succ s k h]; have := rw1_pos s _ h; omega
theorem rpos_mono (s : ByteArray) (k : Nat) : rpos s k ≤ rpos s (k + 1) := by
  by_cases h : rpos s k < s.size
  · exact Nat.le_of_lt (rpos_lt s k h)
  · rw [rpos_end s k h]; exact rpos_le s k
theorem rpos_mono' (s : ByteArray) (k d : Nat) : rpos s k ≤ rpos s (k + d) := by
  induction d with
  | zero => exact Nat.le_refl _
  | succ d ih => exact Nat.le_trans ih (rpos_mono s (k + d))
theorem rpos_le_of (s : ByteArray) {a b : Nat} (h : a ≤ b) : rpos s a ≤ rpos s b := by
  have := rpos_mono' s a (b - a)
  rwa [show a + (b - a) = b by omega] at this
/-- How many runes. -/
def rcnt (s : ByteArray) : Nat := (Conv.runesFrom s s.size 0 #[]).size
theorem runes_size (s : ByteArray) : ∀ (fuel k : Nat) (acc : Array Value), s.size ≤ rpos s k + fuel → ∃ m, (Conv.runesFrom s fuel (rpos s k) acc).size = acc.size + m ∧ ∀ j, (rpos s (k + j) < s.size ↔ j < m)
  | 0, k, acc, h => ⟨0, rfl, fun j => by have := rpos_mono' s k j; omega⟩
  | fuel + 1, k, acc, h => by
    by_cases hp : rpos s k < s.size
    · have e := rpos_succ s k hp
      have hw := rw1_pos s _ hp
      obtain ⟨m, hm, hj⟩ := runes_size s fuel (k + 1) (acc.push (.int .i32 (Int.ofNat (Utf8.decode s (rpos s k)).1))) (by rw [e]; omega)
      refine ⟨m + 1, ?_, fun j => ?_⟩
      · have : (Conv.runesFrom s (fuel + 1) (rpos s k) acc) = Conv.runesFrom s fuel (rpos s (k + 1)) (acc.push (.int .i32 (Int.ofNat (Utf8.decode s (rpos s k)).1))) := by
          rw [e]; conv => lhs; unfold Conv.runesFrom
          rw [if_pos hp]; rfl
        rw [this, hm, Array.size_push]; omega
      · cases j with
        | zero => exact ⟨fun _ => by omega, fun _ => hp⟩
        | succ j => rw [show k + (j + 1) = k + 1 + j by omega, hj j]; omega
    · refine ⟨0, ?_, fun j => by have := rpos_mono' s k j; omega⟩
      unfold Conv.runesFrom; rw [if_neg hp]; rfl
theorem rpos_iff (s : ByteArray) (k : Nat) : rpos s k < s.size ↔ k < rcnt s := by
  obtain ⟨m, hm, hj⟩ := runes_size s s.size 0 #[] (by simp [rpos])
  have e : rcnt s = m := by unfold rcnt; rw [show (0 : Nat) = rpos s 0 from rfl, hm]; simp
  have := hj k
  rw [Nat.zero_add] at this
  rw [e]; exact this
theorem rpos_cnt (s : ByteArray) {k : Nat} (h : rcnt s ≤ k) : rpos s k = s.size := by
  have := rpos_le s k
  have h2 := rpos_iff s k
  omega
theorem rcnt_le (s : ByteArray) : rcnt s ≤ s.size := by
  have := size_runesFrom s s.size 0 #[]
  unfold rcnt; simpa using this
theorem rpos_ge (s : ByteArray) : ∀ k, k ≤ rcnt s → k ≤ rpos s k
  | 0, _ => Nat.zero_le _
  | k + 1, h => by
    have h1 := (rpos_iff s k).2 (by omega)
    have := rpos_lt s k h1
    have := rpos_ge s k (by omega)
    omega
/-- A piece cut at runes' starts holds the same runes. -/
theorem bt_extract (s : ByteArray) (a b i : Nat) (_h : a + i < b) (hb : b ≤ s.size) : bt (s.extract a b) i = bt s (a + i) := by
  have hi : i < (s.extract a b).size := by rw [ByteArray.size_extract]; omega
  rw [← bt_at _ _ hi, ← bt_at s (a + i) (by omega)]
  simp [ByteArray.getElem_extract]
theorem wd_cut (n m b0 b1 b2 b3 c1 c2 c3 : Nat) (_hl : m ≤ n) (hw : wd n b0 b1 b2 b3 ≤ m) (e1 : 1 < m → c1 = b1) (e2 : 2 < m → c2 = b2) (e3 : 3 < m → c3 = b3) : wd m b0 c1 c2 c3 = wd n b0 b1 b2 b3 := by
  unfold wd at hw ⊢
  by_cases k0 : b0 < 128
  · simp only [if_pos k0]
  simp only [if_neg k0] at hw ⊢
  by_cases k1 : 194 ≤ b0 ∧ b0 ≤ 223
  · simp only [if_pos k1] at hw ⊢
    by_cases q : 2 ≤ n ∧ 128 ≤ b1 ∧ b1 ≤ 191
    · rw [if_pos q] at hw ⊢
      have := e1 (by omega)
      rw [if_pos (by omega)]
    · rw [if_neg q, if_neg (fun hh => q (by have := e1 (by omega); omega))]
  simp only [if_neg k1] at hw ⊢
  by_cases k2 : b0 = 224
  · simp only [if_pos k2] at hw ⊢
    by_cases q : 3 ≤ n ∧ 160 ≤ b1 ∧ b1 ≤ 191 ∧ 128 ≤ b2 ∧ b2 ≤ 191
    · rw [if_pos q] at hw ⊢
      have := e1 (by omega); have := e2 (by omega)
      rw [if_pos (by omega)]
    · rw [if_neg q, if_neg (fun hh => q (by have := e1 (by omega); have := e2 (by omega); omega))]
  simp only [if_neg k2] at hw ⊢
  by_cases k3 : b0 = 237
  · simp only [if_pos k3] at hw ⊢
    by_cases q : 3 ≤ n ∧ 128 ≤ b1 ∧ b1 ≤ 159 ∧ 128 ≤ b2 ∧ b2 ≤ 191
    · rw [if_pos q] at hw ⊢
      have := e1 (by omega); have := e2 (by omega)
      rw [if_pos (by omega)]
    · rw [if_neg q, if_neg (fun hh => q (by have := e1 (by omega); have := e2 (by omega); omega))]
  simp only [if_neg k3] at hw ⊢
  by_cases k4 : 225 ≤ b0 ∧ b0 ≤ 239
  · simp only [if_pos k4] at hw ⊢
    by_cases q : 3 ≤ n ∧ 128 ≤ b1 ∧ b1 ≤ 191 ∧ 128 ≤ b2 ∧ b2 ≤ 191
    · rw [if_pos q] at hw ⊢
      have := e1 (by omega); have := e2 (by omega)
      rw [if_pos (by omega)]
    · rw [if_neg q, if_neg (fun hh => q (by have := e1 (by omega); have := e2 (by omega); omega))]
  simp only [if_neg k4] at hw ⊢
  by_cases k5 : b0 = 240
  · simp only [if_pos k5] at hw ⊢
    by_cases q : 4 ≤ n ∧ 144 ≤ b1 ∧ b1 ≤ 191 ∧ 128 ≤ b2 ∧ b2 ≤ 191 ∧ 128 ≤ b3 ∧ b3 ≤ 191
    · rw [if_pos q] at hw ⊢
      have := e1 (by omega); have := e2 (by omega); have := e3 (by omega)
      rw [if_pos (by omega)]
    · rw [if_neg q, if_neg (fun hh => q (by have := e1 (by omega); have := e2 (by omega); have := e3 (by omega); omega))]
  simp only [if_neg k5] at hw ⊢
  by_cases k6 : b0 = 244
  · simp only [if_pos k6] at hw ⊢
    by_cases q : 4 ≤ n ∧ 128 ≤ b1 ∧ b1 ≤ 143 ∧ 128 ≤ b2 ∧ b2 ≤ 191 ∧ 128 ≤ b3 ∧ b3 ≤ 191
    · rw [if_pos q] at hw ⊢
      have := e1 (by omega); have := e2 (by omega); have := e3 (by omega)
      rw [if_pos (by omega)]
    · rw [if_neg q, if_neg (fun hh => q (by have := e1 (by omega); have := e2 (by omega); have := e3 (by omega); omega))]
  simp only [if_neg k6] at hw ⊢
  by_cases k7 : 241 ≤ b0 ∧ b0 ≤ 243
  · simp only [if_pos k7] at hw ⊢
    by_cases q : 4 ≤ n ∧ 128 ≤ b1 ∧ b1 ≤ 191 ∧ 128 ≤ b2 ∧ b2 ≤ 191 ∧ 128 ≤ b3 ∧ b3 ≤ 191
    · rw [if_pos q] at hw ⊢
      have := e1 (by omega); have := e2 (by omega); have := e3 (by omega)
      rw [if_pos (by omega)]
    · rw [if_neg q, if_neg (fun hh => q (by have := e1 (by omega); have := e2 (by omega); have := e3 (by omega); omega))]
  simp only [if_neg k7]
theorem rw1_extract (s : ByteArray) (a b i : Nat) (h : a + i < b) (hb : b ≤ s.size) (hw : a + i + rw1 s (a + i) ≤ b) : rw1 (s.extract a b) i = rw1 s (a + i) := by
  have hi : i < (s.extract a b).size := by rw [ByteArray.size_extract]; omega
  have hsz : (s.extract a b).size - i = b - (a + i) := by rw [ByteArray.size_extract]; omega
  unfold rw1 at *
  rw [decode_wd _ _ hi, hsz]
  rw [decode_wd _ _ (by omega)] at hw ⊢
  rw [bt_extract s a b i h hb]
  exact wd_cut _ _ _ _ _ _ _ _ _ (by omega) (by omega) (fun h => by rw [bt_extract s a b (i + 1) (by omega) hb]; rfl) (fun h => by rw [bt_extract s a b (i + 2) (by omega) hb]; rfl) (fun h => by rw [bt_extract s a b (i + 3) (by omega) hb]; rfl)
theorem rpos_extract (s : ByteArray) (a b : Nat) (_hab : a ≤ b) (hb : b ≤ rcnt s) : ∀ k, a + k ≤ b → rpos (s.extract (rpos s a) (rpos s b)) k = rpos s (a + k) - rpos s a
  | 0, _ => by simp [rpos]
  | k + 1, h => by
    have ih := rpos_extract s a b _hab hb k (by omega)
    have m1 := rpos_mono' s a k
    have hlt : rpos s (a + k) < s.size := (rpos_iff s (a + k)).2 (by omega)
    have m2 := rpos_lt s (a + k) hlt
    have m3 : rpos s (a + k + 1) ≤ rpos s b := rpos_le_of s (by omega)
    have m4 := rpos_le s b
    have hs := rpos_succ s (a + k) hlt
    have hp : rpos (s.extract (rpos s a) (rpos s b)) k < (s.extract (rpos s a) (rpos s b)).size := by rw [ih, ByteArray.size_extract]; omega
    rw [rpos_succ _ _ hp, ih, rw1_extract s _ _ _ (by omega) m4 (by rw [show rpos s a + (rpos s (a + k) - rpos s a) = rpos s (a + k) by omega]; omega), show rpos s a + (rpos s (a + k) - rpos s a) = rpos s (a + k) by omega, show a + (k + 1) = a + k + 1 by omega, hs]
    omega
theorem rcnt_extract (s : ByteArray) (a b : Nat) (hab : a ≤ b) (hb : b ≤ rcnt s) : rcnt (s.extract (rpos s a) (rpos s b)) = b - a := by
  have hsz : (s.extract (rpos s a) (rpos s b)).size = rpos s b - rpos s a := by rw [ByteArray.size_extract]; have := rpos_le s b; omega
  have e1 : ∀ k, k < rcnt (s.extract (rpos s a) (rpos s b)) ↔ rpos (s.extract (rpos s a) (rpos s b)) k < rpos s b - rpos s a := fun k => by rw [← rpos_iff, hsz]
  have h1 := e1 (b - a)
  rw [rpos_extract s a b hab hb (b - a) (by omega), show a + (b - a) = b by omega] at h1
  have h2 : ∀ k, k < b - a → k < rcnt (s.extract (rpos s a) (rpos s b)) := fun k hk => by
    rw [e1 k, rpos_extract s a b hab hb k (by omega)]
    have := rpos_mono' s a k
    have := rpos_lt s (a + k) ((rpos_iff s (a + k)).2 (by omega))
    have := rpos_le_of s (show a + k + 1 ≤ b by omega)
    omega
  rcases Nat.lt_trichotomy (rcnt (s.extract (rpos s a) (rpos s b))) (b - a) with h | h | h
  · exact absurd (h2 _ h) (Nat.lt_irrefl _)
  · exact h
  · have := h1.1 h; omega
end Go.Gq
