/- The width of a rune: the law's own function of n001_97. -/
import Derived.Test.YticjhbklcpoonaaGreatDoorWid
import Derived.Deep.CutBlock
namespace Go.Proofs.YticjhbklcpoonaaGreatDoor
open Go.RowKit Go.Gq
set_option maxRecDepth 100000
set_option maxHeartbeats 4000000 in
theorem width97 (s : ByteArray) (i : Nat) (hi : i < s.size) (hs : s.size ≤ 1048576) (w : World) :
    Calls Tryz.prog 72 #[.string s, .int .i64 (i : Int)] w fun e w' => e = .returned (.int .i64 (rw1 s i : Int)) ∧ w = w' := by
  have l0 := bt_lt s i
  have d0 := decode_wd s i hi
  have f0 := run_idx s i i rfl hi
  have f1 : i + 1 < s.size → ∀ w, _ := fun h => run_idx s ((i : Int) + 1) (i + 1) (by omega) h
  have f2 : i + 2 < s.size → ∀ w, _ := fun h => run_idx s ((i : Int) + 2) (i + 2) (by omega) h
  have f3 : i + 3 < s.size → ∀ w, _ := fun h => run_idx s ((i : Int) + 3) (i + 3) (by omega) h
  have l1 := bt_lt s (i + 1)
  have l2 := bt_lt s (i + 2)
  have l3 := bt_lt s (i + 3)
  change rw1 s i = _ at d0
  generalize bt s i = b0 at *
  generalize bt s (i + 1) = b1 at *
  generalize bt s (i + 2) = b2 at *
  generalize bt s (i + 3) = b3 at *
  obtain ⟨n, hn⟩ : ∃ n, n = s.size - i := ⟨_, rfl⟩
  rw [← hn] at d0
  obtain ⟨W, hW⟩ : ∃ W, W = rw1 s i := ⟨_, rfl⟩
  rw [← hW] at d0 ⊢
  clear hW
  obtain ⟨b, hb⟩ : ∃ b : Int, b = (b0 : Int) := ⟨_, rfl⟩
  rw [← hb] at f0
  have D0 := Lib.hid d0
  have HB := Lib.hid hb
  have HF := Lib.hid (And.intro f1 (And.intro f2 f3))
  have z0 : 0 ≤ b := by omega
  have z1 : b < 256 := by omega
  have N0 := Lib.hid hn
  clear d0 hb f1 f2 f3 hn
  by_cases c1 : b < 128
  · go_enter Tryz.func72, Tryz.ntmps72
    go_wp2
    go_ret
    refine ⟨ret_int ?_, rfl⟩
    rw [D0.out, wd_low _ _ _ _ _ (by have := HB.out; omega)]; rfl
  by_cases c12 : b < 194
  · have HLO : Hid (b0 < 194 ∨ 244 < b0) := Lib.hid (by have := HB.out; omega)
    have q0 : decide (194 ≤ b) = false := by simp; omega
    have q1 : (b == 224) = false := by simp; omega
    have q2 : decide (225 ≤ b) = false := by simp; omega
    have q3 : (b == 238) = false := by simp; omega
    have q4 : (b == 239) = false := by simp; omega
    have q5 : (b == 237) = false := by simp; omega
    have q6 : (b == 240) = false := by simp; omega
    have q7 : decide (241 ≤ b) = false := by simp; omega
    have q8 : (b == 244) = false := by simp; omega
    go_enter Tryz.func72, Tryz.ntmps72
    go_wp2
    go_ret
    refine ⟨ret_int ?_, rfl⟩
    rw [D0.out, wd_low _ _ _ _ _ HLO.out]; rfl
  have q0 : decide (194 ≤ b) = true := by simp; omega
  go_enter Tryz.func72, Tryz.ntmps72
  go_upto_block 0 with fail
  go_cut [6, 7, 8] (fun s6 s7 s8 wx => (∃ lo hi k : Int, s6 = .int .u8 lo ∧ s7 = .int .u8 hi ∧ s8 = .int .i64 k ∧ lead b lo hi k) ∧ wx = w)
  case first =>
    by_cases c3 : 194 ≤ b ∧ b ≤ 223
    · have q0 : decide (b ≤ 223) = true := by simp; omega
      go_wp2_with fail
      go_meet
      exact ⟨⟨128, 191, 2, rfl, rfl, rfl, by unfold lead; omega⟩, rfl⟩
    by_cases c4 : b = 224
    · subst c4
      go_wp2_with fail
      go_meet
      exact ⟨⟨160, 191, 3, rfl, rfl, rfl, by unfold lead; omega⟩, rfl⟩
    by_cases c5 : 225 ≤ b ∧ b ≤ 236
    · have q0 : decide (b ≤ 223) = false := by simp; omega
      have q1 : (b == 224) = false := by simp; omega
      have q2 : decide (225 ≤ b) = true := by simp; omega
      have q3 : decide (b ≤ 236) = true := by simp; omega
      go_wp2_with fail
      go_meet
      exact ⟨⟨128, 191, 3, rfl, rfl, rfl, by unfold lead; omega⟩, rfl⟩
    by_cases c6 : b = 237
    · subst c6
      go_wp2_with fail
      go_meet
      exact ⟨⟨128, 159, 3, rfl, rfl, rfl, by unfold lead; omega⟩, rfl⟩
    by_cases c7 : b = 238
    · subst c7
      go_wp2_with fail
      go_meet
      exact ⟨⟨128, 191, 3, rfl, rfl, rfl, by unfold lead; omega⟩, rfl⟩
    by_cases c8 : b = 239
    · subst c8
      go_wp2_with fail
      go_meet
      exact ⟨⟨128, 191, 3, rfl, rfl, rfl, by unfold lead; omega⟩, rfl⟩
    by_cases c9 : b = 240
    · subst c9
      go_wp2_with fail
      go_meet
      exact ⟨⟨144, 191, 4, rfl, rfl, rfl, by unfold lead; omega⟩, rfl⟩
    by_cases c10 : 241 ≤ b ∧ b ≤ 243
    · have q0 : decide (b ≤ 223) = false := by simp; omega
      have q1 : (b == 224) = false := by simp; omega
      have q2 : decide (225 ≤ b) = true := by simp; omega
      have q3 : decide (b ≤ 236) = false := by simp; omega
      have q4 : (b == 238) = false := by simp; omega
      have q5 : (b == 239) = false := by simp; omega
      have q6 : (b == 237) = false := by simp; omega
      have q7 : (b == 240) = false := by simp; omega
      have q8 : decide (241 ≤ b) = true := by simp; omega
      have q9 : decide (b ≤ 243) = true := by simp; omega
      go_wp2_with fail
      go_meet
      exact ⟨⟨128, 191, 4, rfl, rfl, rfl, by unfold lead; omega⟩, rfl⟩
    by_cases c11 : b = 244
    · subst c11
      go_wp2_with fail
      go_meet
      exact ⟨⟨128, 143, 4, rfl, rfl, rfl, by unfold lead; omega⟩, rfl⟩
    have HLO : Hid (b0 < 194 ∨ 244 < b0) := Lib.hid (by have := HB.out; omega)
    · have q9 : decide (b ≤ 223) = false := by simp; omega
      have q1 : (b == 224) = false := by simp; omega
      have q2 : decide (225 ≤ b) = true := by simp; omega
      have q10 : decide (b ≤ 236) = false := by simp; omega
      have q3 : (b == 238) = false := by simp; omega
      have q4 : (b == 239) = false := by simp; omega
      have q5 : (b == 237) = false := by simp; omega
      have q6 : (b == 240) = false := by simp; omega
      have q7 : decide (241 ≤ b) = true := by simp; omega
      have q11 : decide (b ≤ 243) = false := by simp; omega
      have q8 : (b == 244) = false := by simp; omega
      go_wp2_with fail
      go_ret
      refine ⟨ret_int ?_, rfl⟩
      rw [D0.out, wd_low _ _ _ _ _ HLO.out]; rfl
  case rest =>
  obtain ⟨⟨lo, hi, k, rfl, rfl, rfl, hl⟩, rfl⟩ := hcut
  have hv : (W : Int) = wd2 n lo hi k b1 b2 b3 := by rw [D0.out]; exact wd_lead _ _ _ _ _ _ _ _ (by rw [← HB.out]; exact hl)
  have hk : (k = 2 ∨ k = 3 ∨ k = 4) ∧ 0 ≤ lo ∧ lo < 256 ∧ 0 ≤ hi ∧ hi < 256 := by unfold lead at hl; omega
  obtain ⟨hk, p1, p2, p3, p4⟩ := hk
  have HV := Lib.hid hv
  have k0 : 2 ≤ k := by omega
  have k1 : k ≤ 4 := by omega
  clear hv hl D0
  by_cases c2 : (s.size : Int) - (i : Int) < k
  · go_wp2
    go_ret
    exact ⟨ret_int (by rw [HV.out]; unfold wd2; rw [if_pos (by have := N0.out; omega)]), rfl⟩
  have F1 := HF.out.1 (by omega)
  by_cases c3 : (b1 : Int) < lo
  · go_wp2
    go_ret
    exact ⟨ret_int (by rw [HV.out]; unfold wd2; rw [if_neg (by have := N0.out; omega), if_pos (.inl c3)]), rfl⟩
  by_cases c4 : hi < (b1 : Int)
  · go_wp2
    go_ret
    exact ⟨ret_int (by rw [HV.out]; unfold wd2; rw [if_neg (by have := N0.out; omega), if_pos (.inr c4)]), rfl⟩
  have HC := Lib.hid (And.intro c2 (And.intro c3 c4))
  have HK := Lib.hid hk
  go_wp2_with fail
  clear hk
  go_loop [9, 10] (fun c j => ∃ x m : Int, c = .int .u8 x ∧ j = .int .i64 m ∧ 2 ≤ m ∧ m ≤ k ∧ Hid ((3 ≤ m → 128 ≤ b2 ∧ b2 ≤ 191) ∧ (4 ≤ m → 128 ≤ b3 ∧ b3 ≤ 191))) (fun _ j => 10 - (intOf j).toNat)
  case atStart => exact ⟨_, 2, rfl, rfl, by omega, by omega, Lib.hid ⟨by omega, by omega⟩⟩
  case round =>
    obtain ⟨x, m, rfl, rfl, m0, m1, HM⟩ := hrel
    by_cases cm : m = k
    · subst cm
      go_wp2
      go_ret
      refine ⟨ret_int ?_, rfl⟩
      obtain ⟨c2, c3, c4⟩ := HC.out
      obtain ⟨q2, q3⟩ := HM.out
      rw [HV.out]; unfold wd2
      rw [if_neg (by have := N0.out; omega), if_neg (by omega), if_neg (by omega), if_neg (by omega)]
    have m2 : m < k := by omega
    have hm : m = 2 ∨ m = 3 := by omega
    rcases hm with rfl | rfl
    · have F2 := HF.out.2.1 (by omega)
      by_cases c5 : (b2 : Int) < 128
      · go_wp2
        go_ret
        refine ⟨ret_int ?_, rfl⟩
        obtain ⟨c2, c3, c4⟩ := HC.out
        rw [HV.out]; unfold wd2
        rw [if_neg (by have := N0.out; omega), if_neg (by omega), if_pos (by omega)]
      have q5 : decide ((b2 : Int) < 128) = false := by simp; omega
      by_cases c6 : 191 < (b2 : Int)
      · have q6 : decide (191 < (b2 : Int)) = true := by simp; omega
        go_wp2
        go_ret
        refine ⟨ret_int ?_, rfl⟩
        obtain ⟨c2, c3, c4⟩ := HC.out
        rw [HV.out]; unfold wd2
        rw [if_neg (by have := N0.out; omega), if_neg (by omega), if_pos (by omega)]
      have q6 : decide (191 < (b2 : Int)) = false := by simp; omega
      have HN := Lib.hid (And.intro c5 c6)
      go_wp2_with fail
      go_round
      case rel => exact ⟨_, 3, rfl, rfl, by omega, by omega, Lib.hid ⟨fun _ => by have := HN.out; omega, by omega⟩⟩
      case measure => simp [intOf]
    · have F3 := HF.out.2.2 (by omega)
      by_cases c5 : (b3 : Int) < 128
      · go_wp2
        go_ret
        refine ⟨ret_int ?_, rfl⟩
        obtain ⟨c2, c3, c4⟩ := HC.out
        have := (HM.out).1
        rw [HV.out]; unfold wd2
        rw [if_neg (by have := N0.out; omega), if_neg (by omega), if_neg (by omega), if_pos (by omega)]
      have q5 : decide ((b3 : Int) < 128) = false := by simp; omega
      by_cases c6 : 191 < (b3 : Int)
      · have q6 : decide (191 < (b3 : Int)) = true := by simp; omega
        go_wp2
        go_ret
        refine ⟨ret_int ?_, rfl⟩
        obtain ⟨c2, c3, c4⟩ := HC.out
        have := (HM.out).1
        rw [HV.out]; unfold wd2
        rw [if_neg (by have := N0.out; omega), if_neg (by omega), if_neg (by omega), if_pos (by omega)]
      have q6 : decide (191 < (b3 : Int)) = false := by simp; omega
      have HN := Lib.hid (And.intro c5 c6)
      go_wp2_with fail
      go_round
      case rel => exact ⟨_, 4, rfl, rfl, by omega, by omega, Lib.hid ⟨(HM.out).1 ∘ fun _ => by omega, fun _ => by have := HN.out; omega⟩⟩
      case measure => simp [intOf]
end Go.Proofs.YticjhbklcpoonaaGreatDoor
