/- ZZfuncSlice at a string, at an array: bounds that are taken as ints. -/
import Derived.Test.YticjhbklcpoonaaGreatDoorCvt
namespace Go.Proofs.YticjhbklcpoonaaGreatDoor
open Go.RowKit Go.Gq
set_option maxRecDepth 100000
/-- What an index's words come to. -/
def IdxV (k n : Int) (f : Nat) (s : ByteArray) (x : Value) : Prop :=
  ∀ w, Calls Tryz.prog 53 #[.int .i64 k, .int .i64 n, .float .f64 f, .string s] w fun e w' => e = .returned x ∧ Kept w w'
theorem idxV_int (n : Int) (f : Nat) (s : ByteArray) : IdxV 1 n f s (iI n) := by
  intro w
  go_enter Tryz.func53, Tryz.ntmps53
  go_wp2
  go_ret
  exact ⟨rfl, Below.refl _ _⟩
theorem valueOf_str (s : ByteArray) (a : Value) (n : Int) (f : Nat) (w : World) :
    Calls Tryz.prog 52 #[.int .i64 1, .string s, a, .int .i64 n, .float .f64 f] w fun e w' => e = .returned (sI s) ∧ w = w' := by
  go_enter Tryz.func52, Tryz.ntmps52
  go_wp2
  go_ret
  exact ⟨rfl, rfl⟩
theorem valueOf_arr (s : ByteArray) (a : Option Addr) (m c : Nat) (z : Nat → Int) (n : Int) (f : Nat) (w : World) (hn : m ≤ 1048576) (h : Rd w a m (fun i => .int .i64 (z i))) :
    Calls Tryz.prog 52 #[.int .i64 2, .string s, .slice a m c, .int .i64 n, .float .f64 f] w fun e w' => ∃ a' c', e = .returned (.iface 62 (.slice a' m c')) ∧ m ≤ c' ∧ Rd w' a' m (fun i => iI (z i)) ∧ Kept w w' := by
  go_enter Tryz.func52, Tryz.ntmps52
  go_wp2_with fail
  refine (anyInts_any a m c z w hn h).mono ?_
  rintro e w' ⟨a', c', rfl, h1, h2, h3⟩
  have K := Lib.hid (And.intro h1 (And.intro h2 h3))
  clear h1 h2 h3
  go_wp2
  go_ret
  exact ⟨_, _, rfl, K.out⟩
theorem ZZ_str (str : ByteArray) (ar sv ev : Value) (ek e sk s : Int) (ef sf : Nat) (S E : Option Int) (hev : IdxV ek e ef str ev) (hsv : IdxV sk s sf str sv) (hS : Ix 80 sv S) (hE : Ix 82 ev E) (w : World) (hv : str.size ≤ 1048576) :
    Calls Tryz.prog 28 #[.int .i64 1, .string str, ar, .int .i64 ek, .int .i64 e, .float .f64 ef, .int .i64 sk, .int .i64 s, .float .f64 sf] w fun e' w' => e' = .returned (.tuple #[.int .i64 1, .string (str.extract (rpos str (stO (rcnt str) S)) (rpos str (enO (rcnt str) (stO (rcnt str) S) E))), .slice none 0 0]) ∧ Kept w w' := by
  go_enter Tryz.func28, Tryz.ntmps28
  go_wp2_with fail
  refine (valueOf_str str ar e ef w).mono ?_
  rintro e1 w1 ⟨rfl, rfl⟩
  go_wp2_with fail
  refine (hev w).mono ?_
  rintro e1 w1 ⟨rfl, k1⟩
  have K1 := Lib.hid k1
  clear k1 hev
  go_wp2_with fail
  refine (hsv w1).mono ?_
  rintro e1 w2 ⟨rfl, k2⟩
  have K2 := Lib.hid (K1.out.trans k2)
  clear k2 hsv K1
  go_wp2_with fail
  refine (funcSlice_str .nilIface str sv ev S E hS hE w2 hv).mono ?_
  rintro e1 w3 ⟨rfl, k3⟩
  have K3 := Lib.hid (K2.out.trans k3)
  clear k3 K2
  obtain ⟨r, hr⟩ : ∃ r, r = str.extract (rpos str (stO (rcnt str) S)) (rpos str (enO (rcnt str) (stO (rcnt str) S) E)) := ⟨_, rfl⟩
  have HR := Lib.hid hr
  rw [← hr]
  clear hr
  go_wp2
  go_ret3
  obtain rfl := HR.out
  exact ⟨rfl, K3.out⟩
theorem ZZ_arr (str : ByteArray) (a : Option Addr) (m c : Nat) (z : Nat → Int) (sv ev : Value) (ek e sk s : Int) (ef sf : Nat) (S E : Option Int) (hev : IdxV ek e ef str ev) (hsv : IdxV sk s sf str sv) (hS : Ix 80 sv S) (hE : Ix 82 ev E) (w : World) (hn : m ≤ 1048576) (h : Rd w a m (fun i => .int .i64 (z i))) :
    Calls Tryz.prog 28 #[.int .i64 2, .string str, .slice a m c, .int .i64 ek, .int .i64 e, .float .f64 ef, .int .i64 sk, .int .i64 s, .float .f64 sf] w fun e' w' => ∃ a' c', e' = .returned (.tuple #[.int .i64 2, .string ⟨#[]⟩, .slice a' (enO m (stO m S) E - stO m S) c']) ∧ Rd w' a' (enO m (stO m S) E - stO m S) (fun t => .int .i64 (z (stO m S + t))) ∧ Kept w w' := by
  have hle := enO_bd m (stO m S) E (stO_le m S)
  go_enter Tryz.func28, Tryz.ntmps28
  go_wp2_with fail
  refine (valueOf_arr str a m c z e ef w hn h).mono ?_
  rintro e1 w0 ⟨a0, c0, rfl, h1, h2, h3⟩
  have R0 := Lib.hid h2
  have K0 := Lib.hid h3
  clear h2 h3 h
  go_wp2_with fail
  refine (hev w0).mono ?_
  rintro e1 w1 ⟨rfl, k1⟩
  have K1 := Lib.hid (K0.out.trans k1)
  have R1 := Lib.hid (R0.out.kept k1)
  clear k1 hev K0 R0
  go_wp2_with fail
  refine (hsv w1).mono ?_
  rintro e1 w2 ⟨rfl, k2⟩
  have K2 := Lib.hid (K1.out.trans k2)
  have R2 := Lib.hid (R1.out.kept k2)
  clear k2 hsv K1 R1
  go_wp2_with fail
  refine (funcSlice_arr .nilIface a0 m c0 sv ev S E hS hE w2 hn h1).mono ?_
  rintro e1 w3 ⟨va', vc', rfl, g1, g2, k3⟩
  have K3 := Lib.hid (K2.out.trans k3)
  have R3 := Lib.hid (g1 w3 _ (R2.out.kept k3))
  clear k3 K2 g1 R2 g2
  obtain ⟨st, hst⟩ : ∃ st, st = stO m S := ⟨_, rfl⟩
  rw [← hst] at R3 hle ⊢
  obtain ⟨M, hM⟩ : ∃ M, M = enO m st E - st := ⟨_, rfl⟩
  have hm : M ≤ 1048576 := by omega
  rw [← hM] at R3 ⊢
  have HST := Lib.hid hst
  have HM := Lib.hid hM
  clear hst hM hle
  go_wp2_with fail
  refine (intsAny_any va' M vc' (fun t => z (st + t)) w3 hm R3.out).mono ?_
  rintro e1 w4 ⟨a4, c4, rfl, g4, k4⟩
  have K4 := Lib.hid (And.intro g4 (K3.out.trans k4))
  clear k4 g4
  go_wp2
  go_ret3
  obtain rfl := HM.out
  obtain rfl := HST.out
  exact ⟨_, _, rfl, K4.out⟩
end Go.Proofs.YticjhbklcpoonaaGreatDoor
