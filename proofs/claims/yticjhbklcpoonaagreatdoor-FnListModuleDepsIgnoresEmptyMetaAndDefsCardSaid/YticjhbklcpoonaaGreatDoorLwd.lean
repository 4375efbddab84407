/- The walk of FnListModuleDepsIgnoresEmptyMetaAndDefs. -/
import Derived.Test.YticjhbklcpoonaaGreatDoorImp
namespace Go.Proofs.YticjhbklcpoonaaGreatDoor
open Go.RowKit Go.Gq
set_option maxRecDepth 100000
set_option maxHeartbeats 8000000 in
theorem FnListModuleDepsIgnoresEmptyMetaAndDefs_walk (w : World) (a0 : Option Addr) (n0 c0 : Nat) (s0 : Nat → ByteArray) (h0 : Rd w a0 n0 (fun j => .string (s0 j))) (m0 : n0 ≤ 9223372036854775807) (z0 : ∀ j, j < n0 → (s0 j).size ≤ 9223372036854775807) (a1 : Option Addr) (n1 c1 : Nat) (s1 : Nat → ByteArray) (h1 : Rd w a1 n1 (fun j => .string (s1 j))) (m1 : n1 ≤ 9223372036854775807) (z1 : ∀ j, j < n1 → (s1 j).size ≤ 9223372036854775807) (a2 : Option Addr) (n2 c2 : Nat) (s2 : Nat → ByteArray) (h2 : Rd w a2 n2 (fun j => .string (s2 j))) (m2 : n2 ≤ 9223372036854775807) (z2 : ∀ j, j < n2 → (s2 j).size ≤ 9223372036854775807) :
    Calls Tryz.prog 4 #[.slice a0 n0 c0, .slice a1 n1 c1, .slice a2 n2 c2] w (TrueKept w) := by
  have H := Lib.hid (And.intro h0 (And.intro h1 h2))
  have HZ := Lib.hid z1
  have HB := bytes25 w a0 n0 c0 s0 h0 m0 z0 a1 n1 c1 s1 h1 m1 z1 a2 n2 c2 s2 h2 m2 z2
  have HG := guard25 w a0 n0 c0 s0 h0 m0 z0 a1 n1 c1 s1 h1 m1 z1 a2 n2 c2 s2 h2 m2 z2
  have HB := Lib.hid HB
  have HG := Lib.hid HG
  clear h0 h1 h2 z0 z1 z2
  go_enter Tryz.func4, Tryz.ntmps4
  go_wp2_with fail
  refine HB.out.mono ?_
  rintro e w1 ⟨b, rfl, rfl⟩
  cases b with
  | false =>
    go_wp2
    go_ret
    exact ⟨rfl, Below.refl _ _⟩
  | true =>
  go_wp2_with fail
  refine HG.out.mono ?_
  rintro e w1 ⟨rfl, x, b, rfl, hx⟩
  cases b with
  | false =>
    clear hx
    go_wp2
    go_ret
    exact ⟨rfl, Below.refl _ _⟩
  | true =>
  obtain ⟨l0, l1, l2, hx'⟩ := hx rfl
  clear hx
  obtain ⟨n, hn⟩ : ∃ n, n = min n0 (min n1 n2) := ⟨_, rfl⟩
  rw [← hn] at hx'
  subst hx'
  have g0 : n ≤ n0 := by omega
  have g1 : n ≤ n1 := by omega
  have g2 : n ≤ n2 := by omega
  have gn : n ≤ 65536 := by omega
  clear hn HB HG
  go_wp2_with fail
  refine (clone25 a0 n0 c0 s0 w (by omega) H.out.1).mono ?_
  rintro e w1 ⟨b0, d0, rfl, hr0, hk1⟩
  have R0 := Lib.hid hr0
  have K1 := Lib.hid hk1
  clear hr0 hk1
  go_wp2_with fail
  refine (clone25 a1 n1 c1 s1 w1 (by omega) (H.out.2.1.kept K1.out)).mono ?_
  rintro e w2 ⟨b1, d1, rfl, hr1, hk2⟩
  have R0 := Lib.hid (R0.out.kept hk2)
  have R1 := Lib.hid hr1
  have K2 := Lib.hid (K1.out.trans hk2)
  clear hr1 hk2 K1
  go_wp2_with fail
  refine (clone25 a2 n2 c2 s2 w2 (by omega) (H.out.2.2.kept K2.out)).mono ?_
  rintro e w3 ⟨b2, d2, rfl, hr2, hk3⟩
  have R0 := Lib.hid (R0.out.kept hk3)
  have R1 := Lib.hid (R1.out.kept hk3)
  have R2 := Lib.hid hr2
  have K3 := Lib.hid (K2.out.trans hk3)
  clear hr2 hk3 K2 H
  go_wp2_with fail
  refine (imports_false b0 b1 b2 n0 n1 n2 d0 d1 d2 n s0 s1 s2 w3 R0.out R1.out R2.out gn g0 g1 g2).mono ?_
  rintro e w4 ⟨rb, rfl, hi⟩
  have I4 := Lib.hid hi
  clear hi
  go_wp2_with fail
  obtain ⟨W5, hW5⟩ : ∃ W, W = (w4.alloc (.cells #[.pointer none, .slice (some ⟨rb, 0, none⟩) n n, .slice none 0 0, .pointer none, .pointer none, .pointer none, .slice none 0 0, .int .i64 0] 42)).alloc (.cells #[.slice none 0 0] 45) := ⟨_, rfl⟩
  have k45 : Kept w4 W5 := by rw [hW5]; exact (kept_alloc _ _).trans (kept_alloc _ _)
  have q1c : W5.cell? ⟨w4.heap.size, 1, none⟩ = some (.slice (some ⟨rb, 0, none⟩) n n) := by rw [hW5]; exact cell_up2 (cell_fresh w4 _ _ 1 _ rfl)
  have k35 : Kept w3 W5 := Kept.trans I4.out.choose_spec.2.2 k45
  rw [← hW5]
  have HQ := Lib.hid q1c
  have K45 := Lib.hid k45
  have K5 := Lib.hid (K3.out.trans k35)
  have R0 := Lib.hid (R0.out.kept k35)
  have R1 := Lib.hid (R1.out.kept k35)
  have R2 := Lib.hid (R2.out.kept k35)
  have HW5 := Lib.hid hW5
  clear k45 q1c k35 hW5 K3
  refine (imports_true b0 b1 b2 n0 n1 n2 d0 d1 d2 n s0 s1 s2 W5 R0.out R1.out R2.out gn g0 g1 g2).mono ?_
  rintro e w6 ⟨rb2, rfl, hi⟩
  have I6 := Lib.hid hi
  clear hi R0 R1 R2
  go_wp2_with fail
  obtain ⟨V, hV⟩ : ∃ V, V = (((w6.alloc (.cells #[.string ⟨#[102]⟩, .slice none 0 0, .pointer none] 48)).alloc (.cells #[.string ⟨#[120]⟩] 9)).alloc (.cells #[.string ⟨#[95, 103]⟩, .slice (some ⟨w6.heap.size + 1, 0, none⟩) 1 1, .pointer none] 48)).alloc (.cells #[.pointer (some ⟨w6.heap.size, 0, none⟩), .pointer (some ⟨w6.heap.size + 1 + 1, 0, none⟩)] 46) := ⟨_, rfl⟩
  have kV : Kept w6 V := by rw [hV]; exact (((kept_alloc _ _).trans (kept_alloc _ _)).trans (kept_alloc _ _)).trans (kept_alloc _ _)
  have sV : V.heap.size = w6.heap.size + 1 + 1 + 1 + 1 := by rw [hV]; simp
  rw [← hV]
  obtain ⟨W7, hW7⟩ : ∃ W, W = V.alloc (.cells #[.pointer (some ⟨w4.heap.size + 1, 0, none⟩), .slice (some ⟨rb2, 0, none⟩) n n, .slice (some ⟨w6.heap.size + 1 + 1 + 1, 0, none⟩) 2 2, .pointer none, .pointer none, .pointer none, .slice none 0 0, .int .i64 0] 42) := ⟨_, rfl⟩
  have k67 : Kept w6 W7 := by rw [hW7]; exact kV.trans (kept_alloc _ _)
  have q2c : W7.cell? ⟨w6.heap.size + 1 + 1 + 1 + 1, 1, none⟩ = some (.slice (some ⟨rb2, 0, none⟩) n n) := by rw [hW7, ← sV]; exact cell_fresh V _ _ 1 _ rfl
  rw [← hW7]
  obtain ⟨pp, pr, pi, pk⟩ := I4.out
  obtain ⟨pp2, pr2, pi2, pk2⟩ := I6.out
  have k47 : Kept w4 W7 := K45.out.trans (pk2.trans k67)
  have q1c := kept_cell (pk2.trans k67) HQ.out
  have RD1 := (rd_row (pr.congr (g := fun j => .pointer (some ⟨pp j, 0, none⟩)) fun j hj => if_pos hj)).kept k47
  have RD2 := (rd_row (pr2.congr (g := fun j => .pointer (some ⟨pp2 j, 0, none⟩)) fun j hj => if_pos hj)).kept k67
  have IM1 : ∀ j, j < n → ImpIs W7 (pp j) (s0 j) (s1 j) (s2 j) := fun j hj => (pi j hj).kept k47
  have IM2 : ∀ j, j < n → ImpIs W7 (pp2 j) (s0 j) (s1 j) (s2 j) := fun j hj => (pi2 j hj).kept k67
  have C1 := Lib.hid (ZZdeps_any w4.heap.size (some ⟨rb, 0, none⟩) n n pp s0 s1 s2 W7 gn q1c RD1 IM1 (fun j hj => HZ.out j (by omega)))
  have NX := Lib.hid (And.intro q2c (And.intro RD2 IM2))
  have K7 := Lib.hid (K5.out.trans (pk2.trans k67))
  clear hV kV sV hW7 k67 q2c pr pi pk pr2 pi2 pk2 k47 q1c RD1 RD2 IM1 IM2 I4 I6 HQ K45 HW5 K5
  refine C1.out.mono ?_
  rintro e w8 ⟨ob1, rfl, ho1, hk8⟩
  have O1 := Lib.hid ho1
  have K8 := Lib.hid (K7.out.trans hk8)
  have C2 := Lib.hid (ZZdeps_any (w6.heap.size + 1 + 1 + 1 + 1) (some ⟨rb2, 0, none⟩) n n pp2 s0 s1 s2 w8 gn (kept_cell hk8 NX.out.1) (NX.out.2.1.kept hk8) (fun j hj => (NX.out.2.2 j hj).kept hk8) (fun j hj => HZ.out j (by omega)))
  clear ho1 hk8 K7 C1 NX
  go_wp2_with fail
  refine C2.out.mono ?_
  rintro e w9 ⟨ob2, rfl, ho2, hk9⟩
  have O1 := Lib.hid (rowIs_kept O1.out hk9)
  have O2 := Lib.hid ho2
  have K9 := Lib.hid (K8.out.trans hk9)
  clear ho2 hk9 K8 C2 HZ
  go_wp2_with fail
  go_loopw [15] (fun t wr => ∃ k r : Nat, k ≤ n ∧ t = .int .i64 k ∧ wr = w9.drewN r) (fun t _ => n - (intOf t).toNat)
  case atStart => exact ⟨0, 0, Nat.zero_le _, rfl, rfl⟩
  case round =>
    obtain ⟨k, r, hk, rfl, rfl⟩ := hrel
    by_cases hlt : k < n
    · have q7 : (0 : Int) ≤ (k : Int) := by omega
      have q8 : (k : Int) < (n : Int) := by omega
      have e10 := O1.out.cell (i := k * 7) (by omega)
      rw [show (k * 7) / 7 = k by omega, show (k * 7) % 7 = 0 by omega] at e10
      have e11 := O1.out.cell (i := k * 7 + 1) (by omega)
      rw [show (k * 7 + 1) / 7 = k by omega, show (k * 7 + 1) % 7 = 1 by omega] at e11
      have e12 := O1.out.cell (i := k * 7 + 2) (by omega)
      rw [show (k * 7 + 2) / 7 = k by omega, show (k * 7 + 2) % 7 = 2 by omega] at e12
      have e13 := O1.out.cell (i := k * 7 + 3) (by omega)
      rw [show (k * 7 + 3) / 7 = k by omega, show (k * 7 + 3) % 7 = 3 by omega] at e13
      have e14 := O1.out.cell (i := k * 7 + 4) (by omega)
      rw [show (k * 7 + 4) / 7 = k by omega, show (k * 7 + 4) % 7 = 4 by omega] at e14
      have e15 := O1.out.cell (i := k * 7 + 5) (by omega)
      rw [show (k * 7 + 5) / 7 = k by omega, show (k * 7 + 5) % 7 = 5 by omega] at e15
      have e16 := O1.out.cell (i := k * 7 + 6) (by omega)
      rw [show (k * 7 + 6) / 7 = k by omega, show (k * 7 + 6) % 7 = 6 by omega] at e16
      have e20 := O2.out.cell (i := k * 7) (by omega)
      rw [show (k * 7) / 7 = k by omega, show (k * 7) % 7 = 0 by omega] at e20
      have e21 := O2.out.cell (i := k * 7 + 1) (by omega)
      rw [show (k * 7 + 1) / 7 = k by omega, show (k * 7 + 1) % 7 = 1 by omega] at e21
      have e22 := O2.out.cell (i := k * 7 + 2) (by omega)
      rw [show (k * 7 + 2) / 7 = k by omega, show (k * 7 + 2) % 7 = 2 by omega] at e22
      have e23 := O2.out.cell (i := k * 7 + 3) (by omega)
      rw [show (k * 7 + 3) / 7 = k by omega, show (k * 7 + 3) % 7 = 3 by omega] at e23
      have e24 := O2.out.cell (i := k * 7 + 4) (by omega)
      rw [show (k * 7 + 4) / 7 = k by omega, show (k * 7 + 4) % 7 = 4 by omega] at e24
      have e25 := O2.out.cell (i := k * 7 + 5) (by omega)
      rw [show (k * 7 + 5) / 7 = k by omega, show (k * 7 + 5) % 7 = 5 by omega] at e25
      have e26 := O2.out.cell (i := k * 7 + 6) (by omega)
      rw [show (k * 7 + 6) / 7 = k by omega, show (k * 7 + 6) % 7 = 6 by omega] at e26
      obtain ⟨xP, eP⟩ : ∃ x, x = s0 k := ⟨_, rfl⟩
      obtain ⟨xA, eA⟩ : ∃ x, x = s1 k := ⟨_, rfl⟩
      obtain ⟨xC, eC⟩ : ∃ x, x = s2 k := ⟨_, rfl⟩
      rw [← eP, ← eA, ← eC] at e10 e11 e12 e13 e14 e15 e16 e20 e21 e22 e23 e24 e25 e26
      clear eP eA eC
      obtain ⟨N, hN⟩ : ∃ N : Int, N = ((depL xP xA xC).length : Int) := ⟨_, rfl⟩
      obtain ⟨xR, hR⟩ : ∃ x, x = relP xP xC := ⟨_, rfl⟩
      obtain ⟨xS, hS⟩ : ∃ x : ByteArray, x = if xA.toList.isEmpty then ⟨#[]⟩ else tpS xA := ⟨_, rfl⟩
      obtain ⟨bA, hA⟩ : ∃ b, b = !xA.toList.isEmpty := ⟨_, rfl⟩
      obtain ⟨bD, hD⟩ : ∃ b, b = hpB xA := ⟨_, rfl⟩
      replace e10 : w9.cell? ⟨ob1, k * 7, none⟩ = some (.int .i64 N) := by rw [e10]; unfold depV; first | rfl | (rw [hN]; rfl) | (rw [hR]; rfl) | (rw [hS]; rfl) | (rw [hA]; rfl) | (rw [hD]; rfl)
      replace e11 : w9.cell? ⟨ob1, k * 7 + 1, none⟩ = some (.string xR) := by rw [e11]; unfold depV; first | rfl | (rw [hN]; rfl) | (rw [hR]; rfl) | (rw [hS]; rfl) | (rw [hA]; rfl) | (rw [hD]; rfl)
      replace e12 : w9.cell? ⟨ob1, k * 7 + 2, none⟩ = some (.bool true) := by rw [e12]; unfold depV; first | rfl | (rw [hN]; rfl) | (rw [hR]; rfl) | (rw [hS]; rfl) | (rw [hA]; rfl) | (rw [hD]; rfl)
      replace e13 : w9.cell? ⟨ob1, k * 7 + 3, none⟩ = some (.string xS) := by rw [e13]; unfold depV; first | rfl | (rw [hN]; rfl) | (rw [hR]; rfl) | (rw [hS]; rfl) | (rw [hA]; rfl) | (rw [hD]; rfl)
      replace e14 : w9.cell? ⟨ob1, k * 7 + 4, none⟩ = some (.bool bA) := by rw [e14]; unfold depV; first | rfl | (rw [hN]; rfl) | (rw [hR]; rfl) | (rw [hS]; rfl) | (rw [hA]; rfl) | (rw [hD]; rfl)
      replace e15 : w9.cell? ⟨ob1, k * 7 + 5, none⟩ = some (.bool bD) := by rw [e15]; unfold depV; first | rfl | (rw [hN]; rfl) | (rw [hR]; rfl) | (rw [hS]; rfl) | (rw [hA]; rfl) | (rw [hD]; rfl)
      replace e16 : w9.cell? ⟨ob1, k * 7 + 6, none⟩ = some (.bool true) := by rw [e16]; unfold depV; first | rfl | (rw [hN]; rfl) | (rw [hR]; rfl) | (rw [hS]; rfl) | (rw [hA]; rfl) | (rw [hD]; rfl)
      replace e20 : w9.cell? ⟨ob2, k * 7, none⟩ = some (.int .i64 N) := by rw [e20]; unfold depV; first | rfl | (rw [hN]; rfl) | (rw [hR]; rfl) | (rw [hS]; rfl) | (rw [hA]; rfl) | (rw [hD]; rfl)
      replace e21 : w9.cell? ⟨ob2, k * 7 + 1, none⟩ = some (.string xR) := by rw [e21]; unfold depV; first | rfl | (rw [hN]; rfl) | (rw [hR]; rfl) | (rw [hS]; rfl) | (rw [hA]; rfl) | (rw [hD]; rfl)
      replace e22 : w9.cell? ⟨ob2, k * 7 + 2, none⟩ = some (.bool true) := by rw [e22]; unfold depV; first | rfl | (rw [hN]; rfl) | (rw [hR]; rfl) | (rw [hS]; rfl) | (rw [hA]; rfl) | (rw [hD]; rfl)
      replace e23 : w9.cell? ⟨ob2, k * 7 + 3, none⟩ = some (.string xS) := by rw [e23]; unfold depV; first | rfl | (rw [hN]; rfl) | (rw [hR]; rfl) | (rw [hS]; rfl) | (rw [hA]; rfl) | (rw [hD]; rfl)
      replace e24 : w9.cell? ⟨ob2, k * 7 + 4, none⟩ = some (.bool bA) := by rw [e24]; unfold depV; first | rfl | (rw [hN]; rfl) | (rw [hR]; rfl) | (rw [hS]; rfl) | (rw [hA]; rfl) | (rw [hD]; rfl)
      replace e25 : w9.cell? ⟨ob2, k * 7 + 5, none⟩ = some (.bool bD) := by rw [e25]; unfold depV; first | rfl | (rw [hN]; rfl) | (rw [hR]; rfl) | (rw [hS]; rfl) | (rw [hA]; rfl) | (rw [hD]; rfl)
      replace e26 : w9.cell? ⟨ob2, k * 7 + 6, none⟩ = some (.bool true) := by rw [e26]; unfold depV; first | rfl | (rw [hN]; rfl) | (rw [hR]; rfl) | (rw [hS]; rfl) | (rw [hA]; rfl) | (rw [hD]; rfl)
      clear hN hR hS hA hD
      go_wp2_with fail
      go_quiet (fail)
      go_wp2
      go_roundw
      case rel => first | exact ⟨k + 1, _, by omega, by go_num, rfl⟩ | ((repeat apply Exists.intro); refine ⟨?_, rfl⟩; exact ⟨k + 1, _, by omega, by go_num, rfl⟩)
      case measure => simp [intOf]; omega
    · have q6 : (n : Int) ≤ (k : Int) := by omega
      go_wp2
      go_ret
      exact ⟨rfl, K9.out.trans (kept_drewN _ _)⟩
end Go.Proofs.YticjhbklcpoonaaGreatDoor
