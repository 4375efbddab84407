/- The walk of FnFuncSliceCaseTable. -/
import Derived.Test.YticjhbklcpoonaaGreatDoorErr
import Derived.Test.YticjhbklcpoonaaGreatDoorPik
import Derived.Test.YticjhbklcpoonaaGreatDoorCmp
namespace Go.Proofs.YticjhbklcpoonaaGreatDoor
open Go.RowKit Go.Gq
set_option maxRecDepth 100000
theorem bytes_ct (k : Int) (s : ByteArray) (a : Option Addr) (n c : Nat) (x1 x2 : Int) (f1 : Nat) (x3 x4 : Int) (f2 : Nat) (w : World) (hs : s.size ≤ 9223372036854775807) (hn : n ≤ 9223372036854775807) :
    Calls Tryz.prog 37 #[.int .i64 k, .string s, .slice a n c, .int .i64 x1, .int .i64 x2, .float .f64 f1, .int .i64 x3, .int .i64 x4, .float .f64 f2] w fun e w' => ∃ b, e = .returned (.bool b) ∧ w = w' := by
  by_cases h1 : 1048576 < s.size
  · go_enter Tryz.func37, Tryz.ntmps37
    go_wp2
    go_ret
    exact ⟨_, rfl, rfl⟩
  by_cases h2 : 1048576 < n
  · go_enter Tryz.func37, Tryz.ntmps37
    go_wp2
    go_ret
    exact ⟨_, rfl, rfl⟩
  by_cases h3 : 1048576 < s.size + n
  · have h4 : (1048576 : Int) < (s.size : Int) + (n : Int) := by omega
    go_enter Tryz.func37, Tryz.ntmps37
    go_wp2
    go_ret
    exact ⟨_, rfl, rfl⟩
  · have h4 : (s.size : Int) + (n : Int) ≤ (1048576 : Int) := by omega
    go_enter Tryz.func37, Tryz.ntmps37
    go_wp2
    go_ret
    exact ⟨_, rfl, rfl⟩
theorem nonNum_any (k : Int) (b : Bool) (hb : b = decide (k = 2 ∨ 4 ≤ k)) (w : World) : Calls Tryz.prog 38 #[.int .i64 k] w fun e w' => e = .returned (.bool b) ∧ w = w' := by
  by_cases h : k = 2
  · subst h
    have e : b = true := by rw [hb]; simp
    subst e
    clear hb
    go_enter Tryz.func38, Tryz.ntmps38
    go_wp2
    go_ret
    exact ⟨rfl, rfl⟩
  · have q : (k == 2) = false := by simpa using h
    by_cases h4 : 4 ≤ k
    · have e : b = true := by rw [hb]; simp; omega
      subst e
      clear hb h
      go_enter Tryz.func38, Tryz.ntmps38
      go_wp2
      go_ret
      exact ⟨rfl, rfl⟩
    · have e : b = false := by rw [hb]; simp; omega
      subst e
      clear hb h
      go_enter Tryz.func38, Tryz.ntmps38
      go_wp2
      go_ret
      exact ⟨rfl, rfl⟩
/-- A bound as the program takes it, and as the law does. -/
structure Okx (fn zz : Nat) (k n : Int) (f : Nat) (str : ByteArray) (x : Value) (S T : Option Int) (b : Bool) (v : Int) : Prop where
  idx : IdxV k n f str x
  ix : Ix fn x S
  bd : Bd T b v
  nz : (k != 0) = b
  is : (k = 0 ∧ v = 0) ∨ (k = 1 ∧ v = n) ∨ (k = 3 ∧ ∀ w, Calls Tryz.prog zz #[.float .f64 f] w fun e w' => e = .returned (.int .i64 v) ∧ w = w')
theorem okx_start (k n : Int) (f : Nat) (str : ByteArray) (h : k = 0 ∨ k = 1 ∨ k = 3) (h0 : -9223372036854775808 ≤ n) (h1 : n ≤ 9223372036854775807) :
    ∃ x S T b v, Okx 80 39 k n f str x S T b v ∧ ∀ L, L ≤ 1048576 → stO L S = stO L T := by
  rcases h with rfl | rfl | rfl
  · exact ⟨.nilIface, none, none, false, 0, ⟨idxV_nil n f str, rfl, ⟨rfl, rfl, fun s e => by cases e⟩, rfl, .inl ⟨rfl, rfl⟩⟩, fun L _ => rfl⟩
  · exact ⟨iI n, some n, some n, true, n, ⟨idxV_int n f str, ix_int _ n (toInt_int n) h0 h1, ⟨rfl, rfl, fun s e => by cases e; exact ⟨h0, h1⟩⟩, rfl, .inr (.inl ⟨rfl, rfl⟩)⟩, fun L _ => rfl⟩
  · obtain ⟨m, t, hs, hx, t0, t1, hz⟩ := flt_start f
    exact ⟨fI f, some m, some t, true, t, ⟨idxV_flt n f str, hx, ⟨rfl, rfl, fun s e => by cases e; exact ⟨by omega, by omega⟩⟩, rfl, .inr (.inr ⟨rfl, hz⟩)⟩, fun L hL => stO_sim hs hL⟩
theorem okx_end (k n : Int) (f : Nat) (str : ByteArray) (h : k = 0 ∨ k = 1 ∨ k = 3) (h0 : -9223372036854775808 ≤ n) (h1 : n ≤ 9223372036854775807) :
    ∃ x S T b v, Okx 82 40 k n f str x S T b v ∧ ∀ L st, L ≤ 1048576 → st ≤ L → enO L st S = enO L st T := by
  rcases h with rfl | rfl | rfl
  · exact ⟨.nilIface, none, none, false, 0, ⟨idxV_nil n f str, rfl, ⟨rfl, rfl, fun s e => by cases e⟩, rfl, .inl ⟨rfl, rfl⟩⟩, fun L st _ _ => rfl⟩
  · exact ⟨iI n, some n, some n, true, n, ⟨idxV_int n f str, ix_int _ n (toIntCeil_int n) h0 h1, ⟨rfl, rfl, fun s e => by cases e; exact ⟨h0, h1⟩⟩, rfl, .inr (.inl ⟨rfl, rfl⟩)⟩, fun L st _ _ => rfl⟩
  · obtain ⟨m, t, hs, hx, t0, t1, hz⟩ := flt_end f
    exact ⟨fI f, some m, some t, true, t, ⟨idxV_flt n f str, hx, ⟨rfl, rfl, fun s e => by cases e; exact ⟨by omega, by omega⟩⟩, rfl, .inr (.inr ⟨rfl, hz⟩)⟩, fun L st hL hst => enO_sim hs hL hst⟩
theorem idx_some (k n : Int) (f : Nat) (str : ByteArray) (h0 : 0 ≤ k) (h7 : k ≤ 7) (w : World) : Calls Tryz.prog 53 #[.int .i64 k, .int .i64 n, .float .f64 f, .string str] w (SomeV (fun _ => True) w) := by
  have hc : k = 0 ∨ k = 1 ∨ k = 3 ∨ (k = 2 ∨ (4 ≤ k ∧ k ≤ 7)) := by omega
  rcases hc with rfl | rfl | rfl | h
  · exact (idxV_nil n f str w).mono fun e w' ⟨a, b⟩ => ⟨_, a, trivial, b⟩
  · exact (idxV_int n f str w).mono fun e w' ⟨a, b⟩ => ⟨_, a, trivial, b⟩
  · exact (idxV_flt n f str w).mono fun e w' ⟨a, b⟩ => ⟨_, a, trivial, b⟩
  · exact (idx_bad k n h f str w).mono fun e w' ⟨x, a, _, b⟩ => ⟨x, a, trivial, b⟩
set_option maxHeartbeats 4000000 in
theorem ct_nil (str : ByteArray) (a0 : Option Addr) (n0 c0 : Nat) (z : Nat → Int) (ek e : Int) (ef : Nat) (sk s : Int) (sf : Nat) (w : World) (H0 : Hid (Rd w a0 n0 (fun t => .int .i64 (z t)))) (g3 : str.size ≤ 1048576) (g4 : n0 ≤ 131072) (g2 : (str.size : Int) + 8 * (n0 : Int) ≤ 1048576) (ke0 : 0 ≤ ek) (ke7 : ek ≤ 7) (ks0 : 0 ≤ sk) (ks7 : sk ≤ 7) (_e0 : -9223372036854775808 ≤ e) (_e1 : e ≤ 9223372036854775807) (_s0 : -9223372036854775808 ≤ s) (_s1 : s ≤ 9223372036854775807) :
    Calls Tryz.prog 9 #[.int .i64 0, .string str, .slice a0 n0 c0, .int .i64 ek, .int .i64 e, .float .f64 ef, .int .i64 sk, .int .i64 s, .float .f64 sf] w (TrueKept w) := by
  go_enter Tryz.func9, Tryz.ntmps9
  go_wp2_with fail
  refine (bytes_ct 0 str a0 n0 c0 ek e ef sk s sf w (by omega) (by omega)).mono ?_
  rintro e' w1 ⟨b, rfl, rfl⟩
  cases b with
  | false =>
    go_wp2
    go_ret
    exact ⟨rfl, Below.refl _ _⟩
  | true =>
  go_wp2_with fail
  refine (clone_any a0 n0 c0 z w (by omega) H0.out).mono ?_
  rintro e' w1 ⟨a1, c1, rfl, hr1, hk1⟩
  have R1 := Lib.hid hr1
  have K1 := Lib.hid hk1
  clear hr1 hk1 H0
  go_wp2_with fail
  refine (ZZ_nil str (.slice a1 n0 c1) ek e sk s ef sf _ _ w1 (idx_some ek e ef str ke0 ke7) (idx_some sk s sf str ks0 ks7)).mono ?_
  rintro e' w2 ⟨rfl, hk2⟩
  have K2 := Lib.hid (K1.out.trans hk2)
  clear hk2 K1
  go_wp2
  go_ret
  exact ⟨rfl, K2.out⟩
set_option maxHeartbeats 4000000 in
theorem ct_other (k : Int) (hk : 3 ≤ k ∧ k ≤ 7) (str : ByteArray) (a0 : Option Addr) (n0 c0 : Nat) (z : Nat → Int) (ek e : Int) (ef : Nat) (sk s : Int) (sf : Nat) (w : World) (H0 : Hid (Rd w a0 n0 (fun t => .int .i64 (z t)))) (g3 : str.size ≤ 1048576) (g4 : n0 ≤ 131072) (g2 : (str.size : Int) + 8 * (n0 : Int) ≤ 1048576) (ke0 : 0 ≤ ek) (ke7 : ek ≤ 7) (ks0 : 0 ≤ sk) (ks7 : sk ≤ 7) (_e0 : -9223372036854775808 ≤ e) (_e1 : e ≤ 9223372036854775807) (_s0 : -9223372036854775808 ≤ s) (_s1 : s ≤ 9223372036854775807) :
    Calls Tryz.prog 9 #[.int .i64 k, .string str, .slice a0 n0 c0, .int .i64 ek, .int .i64 e, .float .f64 ef, .int .i64 sk, .int .i64 s, .float .f64 sf] w (TrueKept w) := by
  have HK := Lib.hid hk
  have k0 : 0 ≤ k := by omega
  have k7 : k ≤ 7 := by omega
  have q0 : (k == 0) = false := by simp; omega
  have q1 : (k != 1) = true := by simp; omega
  have q2 : (k != 2) = true := by simp; omega
  clear hk
  go_enter Tryz.func9, Tryz.ntmps9
  go_wp2_with fail
  refine (bytes_ct k str a0 n0 c0 ek e ef sk s sf w (by omega) (by omega)).mono ?_
  rintro e' w1 ⟨b, rfl, rfl⟩
  cases b with
  | false =>
    go_wp2
    go_ret
    exact ⟨rfl, Below.refl _ _⟩
  | true =>
  go_wp2_with fail
  refine (clone_any a0 n0 c0 z w (by omega) H0.out).mono ?_
  rintro e' w1 ⟨a1, c1, rfl, hr1, hk1⟩
  have R1 := Lib.hid hr1
  have K1 := Lib.hid hk1
  clear hr1 hk1 H0
  go_wp2_with fail
  refine (ZZ_err k str (.slice a1 n0 c1) ek e sk s ef sf _ _ _ w1 (valueOf_other k HK.out str _ e ef w1) (idx_some ek e ef str ke0 ke7) (idx_some sk s sf str ks0 ks7) (fun x y zz w hx _ _ => funcSlice_other .nilIface x y zz hx w)).mono ?_
  rintro e' w2 ⟨rfl, hk2⟩
  have K2 := Lib.hid (K1.out.trans hk2)
  clear hk2 K1
  go_wp2
  go_ret
  exact ⟨rfl, K2.out⟩
set_option maxHeartbeats 4000000 in
theorem ct_bad_str_s (str : ByteArray) (a0 : Option Addr) (n0 c0 : Nat) (z : Nat → Int) (ek e : Int) (ef : Nat) (sk s : Int) (sf : Nat) (w : World) (H0 : Hid (Rd w a0 n0 (fun t => .int .i64 (z t)))) (g3 : str.size ≤ 1048576) (g4 : n0 ≤ 131072) (g2 : (str.size : Int) + 8 * (n0 : Int) ≤ 1048576) (ke0 : 0 ≤ ek) (ke7 : ek ≤ 7) (ks0 : 0 ≤ sk) (ks7 : sk ≤ 7) (_e0 : -9223372036854775808 ≤ e) (_e1 : e ≤ 9223372036854775807) (_s0 : -9223372036854775808 ≤ s) (_s1 : s ≤ 9223372036854775807) (hb : sk = 2 ∨ (4 ≤ sk ∧ sk ≤ 7)) :
    Calls Tryz.prog 9 #[.int .i64 1, .string str, .slice a0 n0 c0, .int .i64 ek, .int .i64 e, .float .f64 ef, .int .i64 sk, .int .i64 s, .float .f64 sf] w (TrueKept w) := by
  obtain ⟨be, hbe⟩ : ∃ b, b = decide (ek = 2 ∨ 4 ≤ ek) := ⟨_, rfl⟩
  obtain ⟨bs, hbs⟩ : ∃ b, b = decide (sk = 2 ∨ 4 ≤ sk) := ⟨_, rfl⟩
  have ebs : bs = true := by rw [hbs]; simp; omega
  have CE := Lib.hid (nonNum_any ek be hbe)
  have CS := Lib.hid (nonNum_any sk bs hbs)
  have HB := Lib.hid hb
  clear hbe hbs hb
  go_enter Tryz.func9, Tryz.ntmps9
  go_wp2_with fail
  refine (bytes_ct 1 str a0 n0 c0 ek e ef sk s sf w (by omega) (by omega)).mono ?_
  rintro e' w1 ⟨b, rfl, rfl⟩
  cases b with
  | false =>
    go_wp2
    go_ret
    exact ⟨rfl, Below.refl _ _⟩
  | true =>
  go_wp2_with fail
  refine (clone_any a0 n0 c0 z w (by omega) H0.out).mono ?_
  rintro e' w1 ⟨a1, c1, rfl, hr1, hk1⟩
  have R1 := Lib.hid hr1
  have K1 := Lib.hid hk1
  clear hr1 hk1 H0
  go_wp2_with fail
  refine (ZZ_err 1 str (.slice a1 n0 c1) ek e sk s ef sf CutV (fun _ => True) BadV w1 ((valueOf_str str _ e ef w1).mono fun e' w' ⟨a, b⟩ => ⟨_, a, .inl ⟨str, rfl, g3⟩, b ▸ Below.refl _ _⟩) (idx_some ek e ef str ke0 ke7) (idx_bad sk s HB.out sf str) (fun x y zz w hx _ hz => funcSlice_bad .nilIface x zz y hx (.inl hz) w)).mono ?_
  rintro e' w2 ⟨rfl, hk2⟩
  have K2 := Lib.hid (K1.out.trans hk2)
  clear hk2 K1
  subst ebs
  go_wp2_with fail
  refine (CE.out w2).mono ?_
  rintro e' w3 ⟨rfl, rfl⟩
  cases be with
  | true =>
    go_wp2
    go_ret
    exact ⟨rfl, K2.out⟩
  | false =>
  go_wp2_with fail
  refine (CS.out w2).mono ?_
  rintro e' w3 ⟨rfl, rfl⟩
  go_wp2
  go_ret
  exact ⟨rfl, K2.out⟩
set_option maxHeartbeats 4000000 in
theorem ct_bad_str_e (str : ByteArray) (a0 : Option Addr) (n0 c0 : Nat) (z : Nat → Int) (ek e : Int) (ef : Nat) (sk s : Int) (sf : Nat) (w : World) (H0 : Hid (Rd w a0 n0 (fun t => .int .i64 (z t)))) (g3 : str.size ≤ 1048576) (g4 : n0 ≤ 131072) (g2 : (str.size : Int) + 8 * (n0 : Int) ≤ 1048576) (ke0 : 0 ≤ ek) (ke7 : ek ≤ 7) (ks0 : 0 ≤ sk) (ks7 : sk ≤ 7) (_e0 : -9223372036854775808 ≤ e) (_e1 : e ≤ 9223372036854775807) (s0 : -9223372036854775808 ≤ s) (s1 : s ≤ 9223372036854775807) (hb : ek = 2 ∨ (4 ≤ ek ∧ ek ≤ 7)) (ho : sk = 0 ∨ sk = 1 ∨ sk = 3) :
    Calls Tryz.prog 9 #[.int .i64 1, .string str, .slice a0 n0 c0, .int .i64 ek, .int .i64 e, .float .f64 ef, .int .i64 sk, .int .i64 s, .float .f64 sf] w (TrueKept w) := by
  obtain ⟨be, hbe⟩ : ∃ b, b = decide (ek = 2 ∨ 4 ≤ ek) := ⟨_, rfl⟩
  obtain ⟨bs, hbs⟩ : ∃ b, b = decide (sk = 2 ∨ 4 ≤ sk) := ⟨_, rfl⟩
  have ebe : be = true := by rw [hbe]; simp; omega
  have CE := Lib.hid (nonNum_any ek be hbe)
  have CS := Lib.hid (nonNum_any sk bs hbs)
  have HB := Lib.hid hb
  clear hbe hbs hb
  obtain ⟨x, S, T, bb, vv, hox, _⟩ := okx_start sk s sf str ho s0 s1
  have OX := Lib.hid hox
  clear hox ho
  go_enter Tryz.func9, Tryz.ntmps9
  go_wp2_with fail
  refine (bytes_ct 1 str a0 n0 c0 ek e ef sk s sf w (by omega) (by omega)).mono ?_
  rintro e' w1 ⟨b, rfl, rfl⟩
  cases b with
  | false =>
    go_wp2
    go_ret
    exact ⟨rfl, Below.refl _ _⟩
  | true =>
  go_wp2_with fail
  refine (clone_any a0 n0 c0 z w (by omega) H0.out).mono ?_
  rintro e' w1 ⟨a1, c1, rfl, hr1, hk1⟩
  have R1 := Lib.hid hr1
  have K1 := Lib.hid hk1
  clear hr1 hk1 H0
  go_wp2_with fail
  refine (ZZ_err 1 str (.slice a1 n0 c1) ek e sk s ef sf CutV BadV (fun y => ∃ S, Ix 80 y S) w1 ((valueOf_str str _ e ef w1).mono fun e' w' ⟨a, b⟩ => ⟨_, a, .inl ⟨str, rfl, g3⟩, b ▸ Below.refl _ _⟩) (idx_bad ek e HB.out ef str) (fun w => (OX.out.idx w).mono fun e' w' ⟨a, b⟩ => ⟨_, a, ⟨_, OX.out.ix⟩, b⟩) (fun x y zz w hx hy hz => funcSlice_bad .nilIface x zz y hx (.inr ⟨hz, hy⟩) w)).mono ?_
  rintro e' w2 ⟨rfl, hk2⟩
  have K2 := Lib.hid (K1.out.trans hk2)
  clear hk2 K1
  subst ebe
  go_wp2_with fail
  refine (CE.out w2).mono ?_
  rintro e' w3 ⟨rfl, rfl⟩
  go_wp2
  go_ret
  exact ⟨rfl, K2.out⟩
set_option maxHeartbeats 4000000 in
theorem ct_bad_arr_s (str : ByteArray) (a0 : Option Addr) (n0 c0 : Nat) (z : Nat → Int) (ek e : Int) (ef : Nat) (sk s : Int) (sf : Nat) (w : World) (H0 : Hid (Rd w a0 n0 (fun t => .int .i64 (z t)))) (g3 : str.size ≤ 1048576) (g4 : n0 ≤ 131072) (g2 : (str.size : Int) + 8 * (n0 : Int) ≤ 1048576) (ke0 : 0 ≤ ek) (ke7 : ek ≤ 7) (ks0 : 0 ≤ sk) (ks7 : sk ≤ 7) (_e0 : -9223372036854775808 ≤ e) (_e1 : e ≤ 9223372036854775807) (_s0 : -9223372036854775808 ≤ s) (_s1 : s ≤ 9223372036854775807) (hb : sk = 2 ∨ (4 ≤ sk ∧ sk ≤ 7)) :
    Calls Tryz.prog 9 #[.int .i64 2, .string str, .slice a0 n0 c0, .int .i64 ek, .int .i64 e, .float .f64 ef, .int .i64 sk, .int .i64 s, .float .f64 sf] w (TrueKept w) := by
  obtain ⟨be, hbe⟩ : ∃ b, b = decide (ek = 2 ∨ 4 ≤ ek) := ⟨_, rfl⟩
  obtain ⟨bs, hbs⟩ : ∃ b, b = decide (sk = 2 ∨ 4 ≤ sk) := ⟨_, rfl⟩
  have ebs : bs = true := by rw [hbs]; simp; omega
  have CE := Lib.hid (nonNum_any ek be hbe)
  have CS := Lib.hid (nonNum_any sk bs hbs)
  have HB := Lib.hid hb
  clear hbe hbs hb
  go_enter Tryz.func9, Tryz.ntmps9
  go_wp2_with fail
  refine (bytes_ct 2 str a0 n0 c0 ek e ef sk s sf w (by omega) (by omega)).mono ?_
  rintro e' w1 ⟨b, rfl, rfl⟩
  cases b with
  | false =>
    go_wp2
    go_ret
    exact ⟨rfl, Below.refl _ _⟩
  | true =>
  go_wp2_with fail
  refine (clone_any a0 n0 c0 z w (by omega) H0.out).mono ?_
  rintro e' w1 ⟨a1, c1, rfl, hr1, hk1⟩
  have R1 := Lib.hid hr1
  have K1 := Lib.hid hk1
  clear hr1 hk1 H0
  go_wp2_with fail
  refine (ZZ_err 2 str (.slice a1 n0 c1) ek e sk s ef sf CutV (fun _ => True) BadV w1 ((valueOf_arr str a1 n0 c1 z e ef w1 (by omega) R1.out).mono fun e' w' ⟨a', c', h1, _, _, h4⟩ => ⟨_, h1, .inr ⟨_, _, _, rfl, by omega⟩, h4⟩) (idx_some ek e ef str ke0 ke7) (idx_bad sk s HB.out sf str) (fun x y zz w hx _ hz => funcSlice_bad .nilIface x zz y hx (.inl hz) w)).mono ?_
  rintro e' w2 ⟨rfl, hk2⟩
  have K2 := Lib.hid (K1.out.trans hk2)
  clear hk2 K1
  subst ebs
  go_wp2_with fail
  refine (CE.out w2).mono ?_
  rintro e' w3 ⟨rfl, rfl⟩
  cases be with
  | true =>
    go_wp2
    go_ret
    exact ⟨rfl, K2.out⟩
  | false =>
  go_wp2_with fail
  refine (CS.out w2).mono ?_
  rintro e' w3 ⟨rfl, rfl⟩
  go_wp2
  go_ret
  exact ⟨rfl, K2.out⟩
set_option maxHeartbeats 4000000 in
theorem ct_bad_arr_e (str : ByteArray) (a0 : Option Addr) (n0 c0 : Nat) (z : Nat → Int) (ek e : Int) (ef : Nat) (sk s : Int) (sf : Nat) (w : World) (H0 : Hid (Rd w a0 n0 (fun t => .int .i64 (z t)))) (g3 : str.size ≤ 1048576) (g4 : n0 ≤ 131072) (g2 : (str.size : Int) + 8 * (n0 : Int) ≤ 1048576) (ke0 : 0 ≤ ek) (ke7 : ek ≤ 7) (ks0 : 0 ≤ sk) (ks7 : sk ≤ 7) (_e0 : -9223372036854775808 ≤ e) (_e1 : e ≤ 9223372036854775807) (s0 : -9223372036854775808 ≤ s) (s1 : s ≤ 9223372036854775807) (hb : ek = 2 ∨ (4 ≤ ek ∧ ek ≤ 7)) (ho : sk = 0 ∨ sk = 1 ∨ sk = 3) :
    Calls Tryz.prog 9 #[.int .i64 2, .string str, .slice a0 n0 c0, .int .i64 ek, .int .i64 e, .float .f64 ef, .int .i64 sk, .int .i64 s, .float .f64 sf] w (TrueKept w) := by
  obtain ⟨be, hbe⟩ : ∃ b, b = decide (ek = 2 ∨ 4 ≤ ek) := ⟨_, rfl⟩
  obtain ⟨bs, hbs⟩ : ∃ b, b = decide (sk = 2 ∨ 4 ≤ sk) := ⟨_, rfl⟩
  have ebe : be = true := by rw [hbe]; simp; omega
  have CE := Lib.hid (nonNum_any ek be hbe)
  have CS := Lib.hid (nonNum_any sk bs hbs)
  have HB := Lib.hid hb
  clear hbe hbs hb
  obtain ⟨x, S, T, bb, vv, hox, _⟩ := okx_start sk s sf str ho s0 s1
  have OX := Lib.hid hox
  clear hox ho
  go_enter Tryz.func9, Tryz.ntmps9
  go_wp2_with fail
  refine (bytes_ct 2 str a0 n0 c0 ek e ef sk s sf w (by omega) (by omega)).mono ?_
  rintro e' w1 ⟨b, rfl, rfl⟩
  cases b with
  | false =>
    go_wp2
    go_ret
    exact ⟨rfl, Below.refl _ _⟩
  | true =>
  go_wp2_with fail
  refine (clone_any a0 n0 c0 z w (by omega) H0.out).mono ?_
  rintro e' w1 ⟨a1, c1, rfl, hr1, hk1⟩
  have R1 := Lib.hid hr1
  have K1 := Lib.hid hk1
  clear hr1 hk1 H0
  go_wp2_with fail
  refine (ZZ_err 2 str (.slice a1 n0 c1) ek e sk s ef sf CutV BadV (fun y => ∃ S, Ix 80 y S) w1 ((valueOf_arr str a1 n0 c1 z e ef w1 (by omega) R1.out).mono fun e' w' ⟨a', c', h1, _, _, h4⟩ => ⟨_, h1, .inr ⟨_, _, _, rfl, by omega⟩, h4⟩) (idx_bad ek e HB.out ef str) (fun w => (OX.out.idx w).mono fun e' w' ⟨a, b⟩ => ⟨_, a, ⟨_, OX.out.ix⟩, b⟩) (fun x y zz w hx hy hz => funcSlice_bad .nilIface x zz y hx (.inr ⟨hz, hy⟩) w)).mono ?_
  rintro e' w2 ⟨rfl, hk2⟩
  have K2 := Lib.hid (K1.out.trans hk2)
  clear hk2 K1
  subst ebe
  go_wp2_with fail
  refine (CE.out w2).mono ?_
  rintro e' w3 ⟨rfl, rfl⟩
  go_wp2
  go_ret
  exact ⟨rfl, K2.out⟩
end Go.Proofs.YticjhbklcpoonaaGreatDoor
