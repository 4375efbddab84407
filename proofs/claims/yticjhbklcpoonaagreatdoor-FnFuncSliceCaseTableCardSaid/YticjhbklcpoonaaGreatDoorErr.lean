/- funcSlice where it refuses: the values of the other kinds, the indexes that are no numbers. -/
import Derived.Test.YticjhbklcpoonaaGreatDoorZzf
import Derived.Test.YticjhbklcpoonaaGreatDoorFli
namespace Go.Proofs.YticjhbklcpoonaaGreatDoor
open Go.RowKit Go.Gq
set_option maxRecDepth 100000
/-- A value that is no null, no array, no string. -/
def OtherV (x : Value) : Prop := (∃ v, x = .iface 3 v) ∨ (∃ v, x = .iface 4 v) ∨ (∃ v, x = .iface 113 v) ∨ ∃ v, x = .iface 69 v
def SomeV (P : Value → Prop) (w : World) (e : Ending) (w' : World) : Prop := ∃ x, e = .returned x ∧ P x ∧ Kept w w'
theorem valueOf_other (k : Int) (hk : 3 ≤ k ∧ k ≤ 7) (s : ByteArray) (a : Value) (n : Int) (f : Nat) (w : World) :
    Calls Tryz.prog 52 #[.int .i64 k, .string s, a, .int .i64 n, .float .f64 f] w (SomeV OtherV w) := by
  have hmm := @run_makeMap Tryz.prog
  have hc : k = 3 ∨ k = 4 ∨ k = 5 ∨ k = 6 ∨ k = 7 := by omega
  clear hk
  rcases hc with rfl | rfl | rfl | rfl | rfl
  · go_enter Tryz.func52, Tryz.ntmps52
    go_wp2
    go_ret
    exact ⟨_, rfl, .inl ⟨_, rfl⟩, Below.refl _ _⟩
  · go_enter Tryz.func52, Tryz.ntmps52
    go_wp2
    go_ret
    exact ⟨_, rfl, .inr (.inl ⟨_, rfl⟩), Below.refl _ _⟩
  · go_enter Tryz.func52, Tryz.ntmps52
    go_wp2
    go_ret
    exact ⟨_, rfl, .inr (.inr (.inl ⟨_, rfl⟩)), kept_alloc _ _⟩
  · go_enter Tryz.func52, Tryz.ntmps52
    go_wp2
    go_ret
    exact ⟨_, rfl, .inr (.inr (.inr ⟨_, rfl⟩)), Below.refl _ _⟩
  · obtain ⟨w2, hup, _, ho⟩ := run_mapUpdate_assoc strKey (P := Tryz.prog) Tryz.underlying113 Tryz.underlying9 (w.alloc (.map #[] 0)) (mapIs_new strKey w) ⟨#[107]⟩ (iI n)
    have hup' : (Instr.mapUpdate 113 (.map (some w.heap.size)) (.string ⟨#[107]⟩) (iI n)).run Tryz.prog (w.alloc (.map #[] 0)) = .ok () w2 := hup
    have K := Lib.hid ((kept_alloc w (.map #[] 0)).trans (Below.refl _ _))
    have HO := Lib.hid (ho.below (B := w.heap.size) (Nat.le_refl _))
    clear ho hup
    go_enter Tryz.func52, Tryz.ntmps52
    go_wp2
    go_ret
    exact ⟨_, rfl, .inr (.inr (.inl ⟨_, rfl⟩)), Below.trans K.out HO.out⟩
/-- An error of funcSlice's own. -/
def ErrV (x : Value) : Prop := (∃ v, x = .iface 141 v) ∨ (∃ v, x = .iface 154 v) ∨ ∃ v, x = .iface 157 v
theorem funcSlice_other (x0 x y z : Value) (hx : OtherV x) (w : World) : Calls Tryz.prog 51 #[x0, x, y, z] w (SomeV ErrV w) := by
  rcases hx with ⟨v, rfl⟩ | ⟨v, rfl⟩ | ⟨v, rfl⟩ | ⟨v, rfl⟩
  all_goals
    go_enter Tryz.func51, Tryz.ntmps51
    go_wp2
    go_ret
    exact ⟨_, rfl, .inl ⟨_, rfl⟩, kept_alloc _ _⟩
theorem funcSlice_nil (x0 y z : Value) (w : World) : Calls Tryz.prog 51 #[x0, .nilIface, y, z] w fun e w' => e = .returned .nilIface ∧ w = w' := by
  go_enter Tryz.func51, Tryz.ntmps51
  go_wp2
  go_ret
  exact ⟨rfl, rfl⟩
/-- An index that is no number. -/
def BadV (x : Value) : Prop := (∃ v, x = .iface 9 v) ∨ (∃ v, x = .iface 4 v) ∨ (∃ v, x = .iface 62 v) ∨ ∃ v, x = .iface 113 v
theorem toInt_bad (x : Value) (hx : BadV x) (w : World) : Calls Tryz.prog 80 #[x] w fun e w' => e = .returned (.tuple #[.int .i64 0, .bool false]) ∧ w = w' := by
  rcases hx with ⟨v, rfl⟩ | ⟨v, rfl⟩ | ⟨v, rfl⟩ | ⟨v, rfl⟩
  all_goals
    go_enter Tryz.func80, Tryz.ntmps80
    go_wp2
    go_ret2
    exact ⟨rfl, rfl⟩
theorem toIntCeil_bad (x : Value) (hx : BadV x) (w : World) : Calls Tryz.prog 82 #[x] w fun e w' => e = .returned (.tuple #[.int .i64 0, .bool false]) ∧ w = w' := by
  have HX := Lib.hid hx
  rcases hx with ⟨v, rfl⟩ | ⟨v, rfl⟩ | ⟨v, rfl⟩ | ⟨v, rfl⟩
  all_goals
    go_enter Tryz.func82, Tryz.ntmps82
    go_wp2_with fail
    refine (toInt_bad _ HX.out w).mono ?_
    rintro e w' ⟨rfl, rfl⟩
    go_wp2
    go_ret2
    exact ⟨rfl, rfl⟩
theorem idx_bad (k n : Int) (hk : k = 2 ∨ (4 ≤ k ∧ k ≤ 7)) (f : Nat) (s : ByteArray) (w : World) :
    Calls Tryz.prog 53 #[.int .i64 k, .int .i64 n, .float .f64 f, .string s] w (SomeV BadV w) := by
  have hmm := @run_makeMap Tryz.prog
  have hc : k = 2 ∨ k = 4 ∨ k = 5 ∨ k = 6 ∨ k = 7 := by omega
  clear hk
  rcases hc with rfl | rfl | rfl | rfl | rfl
  · go_enter Tryz.func53, Tryz.ntmps53
    go_wp2
    go_ret
    exact ⟨_, rfl, .inl ⟨_, rfl⟩, Below.refl _ _⟩
  · go_enter Tryz.func53, Tryz.ntmps53
    go_wp2
    go_ret
    exact ⟨_, rfl, .inr (.inl ⟨_, rfl⟩), Below.refl _ _⟩
  · go_enter Tryz.func53, Tryz.ntmps53
    go_wp2
    go_ret
    exact ⟨_, rfl, .inr (.inl ⟨_, rfl⟩), Below.refl _ _⟩
  · go_enter Tryz.func53, Tryz.ntmps53
    go_wp2
    go_ret
    exact ⟨_, rfl, .inr (.inr (.inl ⟨_, rfl⟩)), kept_alloc _ _⟩
  · go_enter Tryz.func53, Tryz.ntmps53
    go_wp2
    go_ret
    exact ⟨_, rfl, .inr (.inr (.inr ⟨_, rfl⟩)), kept_alloc _ _⟩
theorem idxV_nil (n : Int) (f : Nat) (s : ByteArray) : IdxV 0 n f s .nilIface := by
  intro w
  go_enter Tryz.func53, Tryz.ntmps53
  go_wp2
  go_ret
  exact ⟨rfl, Below.refl _ _⟩
theorem idxV_flt (n : Int) (f : Nat) (s : ByteArray) : IdxV 3 n f s (fI f) := by
  intro w
  go_enter Tryz.func53, Tryz.ntmps53
  go_wp2
  go_ret
  exact ⟨rfl, Below.refl _ _⟩
theorem bad_ne {x : Value} (h : BadV x) : ∃ t v, x = .iface t v ∧ ∀ w, (binOp .neq 20 (.iface t v) .nilIface).run Tryz.prog w = .ok (.bool true) w := by
  rcases h with ⟨v, rfl⟩ | ⟨v, rfl⟩ | ⟨v, rfl⟩ | ⟨v, rfl⟩
  all_goals exact ⟨_, _, rfl, fun w => by simp [go_sem]⟩
theorem sliceString_bad_s (v : ByteArray) (hv : v.size ≤ 1048576) (sv ev : Value) (hb : BadV sv) (w : World) : Calls Tryz.prog 68 #[.string v, ev, sv] w (SomeV ErrV w) := by
  obtain ⟨t, vv, e1, hne⟩ := bad_ne hb
  have hL := rcnt_le v
  obtain ⟨L, eL⟩ : ∃ L, L = rcnt v := ⟨_, rfl⟩
  obtain ⟨a, cap, W1, hconv, hk1⟩ : ∃ a cap W1, (convert 9 156 (.string v)).run Tryz.prog w = .ok (.slice (some a) L cap) W1 ∧ Kept w W1 := by
    rw [eL]
    exact ⟨_, _, _, run_runes_of_string w _ _ 21 v Tryz.underlying9 Tryz.underlying156 Tryz.underlying21 (by unfold rcnt at hL; omega), (kept_drew w).trans (kept_alloc _ _)⟩
  rw [← eL] at hL
  have K1 := Lib.hid hk1
  clear hk1 eL
  have HB := Lib.hid hb
  subst e1
  clear hb
  go_enter Tryz.func68, Tryz.ntmps68
  go_wp2_with fail
  refine (toInt_bad _ HB.out _).mono ?_
  rintro e w2 ⟨rfl, rfl⟩
  go_wp2
  go_ret
  exact ⟨_, rfl, .inr (.inr ⟨_, rfl⟩), K1.out.trans (kept_alloc _ _)⟩
set_option maxHeartbeats 1000000 in
theorem sliceString_bad_e (v : ByteArray) (hv : v.size ≤ 1048576) (sv ev : Value) (S : Option Int) (hS : Ix 80 sv S) (hb : BadV ev) (w : World) : Calls Tryz.prog 68 #[.string v, ev, sv] w (SomeV ErrV w) := by
  obtain ⟨t, vv, e1, hne⟩ := bad_ne hb
  have hL := rcnt_le v
  obtain ⟨L, eL⟩ : ∃ L, L = rcnt v := ⟨_, rfl⟩
  obtain ⟨a, cap, W1, hconv, hk1⟩ : ∃ a cap W1, (convert 9 156 (.string v)).run Tryz.prog w = .ok (.slice (some a) L cap) W1 ∧ Kept w W1 := by
    rw [eL]
    exact ⟨_, _, _, run_runes_of_string w _ _ 21 v Tryz.underlying9 Tryz.underlying156 Tryz.underlying21 (by unfold rcnt at hL; omega), (kept_drew w).trans (kept_alloc _ _)⟩
  rw [← eL] at hL
  have K1 := Lib.hid hk1
  clear hk1 eL
  have HB := Lib.hid hb
  subst e1
  clear hb
  cases S with
  | none =>
    have e : sv = .nilIface := hS
    subst e
    clear hS
    go_enter Tryz.func68, Tryz.ntmps68
    go_wp2_with fail
    refine (toIntCeil_bad _ HB.out _).mono ?_
    rintro e w2 ⟨rfl, rfl⟩
    go_wp2
    go_ret
    exact ⟨_, rfl, .inr (.inr ⟨_, rfl⟩), K1.out.trans (kept_alloc _ _)⟩
  | some i =>
    obtain ⟨⟨t1, v1, rfl, hne1⟩, i0, i1, hc⟩ := hS
    have HC := Lib.hid hc
    clear hc
    go_enter Tryz.func68, Tryz.ntmps68
    go_wp2_with fail
    refine (HC.out _).mono ?_
    rintro e w2 ⟨rfl, hk2⟩
    have K2 := Lib.hid (K1.out.trans hk2)
    clear hk2
    go_wp2_with fail
    refine (clamp_any i 0 (L : Int) _ i0 i1 (by omega) (by omega) (by omega)).mono ?_
    rintro e w3 ⟨rfl, rfl⟩
    go_wp2_with fail
    refine (toIntCeil_bad _ HB.out _).mono ?_
    rintro e w2 ⟨rfl, rfl⟩
    go_wp2
    go_ret
    exact ⟨_, rfl, .inr (.inr ⟨_, rfl⟩), K2.out.trans (kept_alloc _ _)⟩
theorem slice_bad_s (va : Option Addr) (L vc : Nat) (_hv : L ≤ 1048576) (sv ev : Value) (hb : BadV sv) (w : World) : Calls Tryz.prog 67 #[.slice va L vc, ev, sv] w (SomeV ErrV w) := by
  obtain ⟨t, vv, e1, hne⟩ := bad_ne hb
  obtain ⟨W1, hW1⟩ : ∃ W1, W1 = w := ⟨_, rfl⟩
  have K1 : Hid (Kept w W1) := by rw [hW1]; exact Lib.hid (Below.refl _ _)
  subst hW1
  have HB := Lib.hid hb
  subst e1
  clear hb
  go_enter Tryz.func67, Tryz.ntmps67
  go_wp2_with fail
  refine (toInt_bad _ HB.out _).mono ?_
  rintro e w2 ⟨rfl, rfl⟩
  go_wp2
  go_ret
  exact ⟨_, rfl, .inr (.inl ⟨_, rfl⟩), K1.out.trans (kept_alloc _ _)⟩
set_option maxHeartbeats 1000000 in
theorem slice_bad_e (va : Option Addr) (L vc : Nat) (hv : L ≤ 1048576) (sv ev : Value) (S : Option Int) (hS : Ix 80 sv S) (hb : BadV ev) (w : World) : Calls Tryz.prog 67 #[.slice va L vc, ev, sv] w (SomeV ErrV w) := by
  obtain ⟨t, vv, e1, hne⟩ := bad_ne hb
  obtain ⟨W1, hW1⟩ : ∃ W1, W1 = w := ⟨_, rfl⟩
  have K1 : Hid (Kept w W1) := by rw [hW1]; exact Lib.hid (Below.refl _ _)
  subst hW1
  have HB := Lib.hid hb
  subst e1
  clear hb
  cases S with
  | none =>
    have e : sv = .nilIface := hS
    subst e
    clear hS
    go_enter Tryz.func67, Tryz.ntmps67
    go_wp2_with fail
    refine (toIntCeil_bad _ HB.out _).mono ?_
    rintro e w2 ⟨rfl, rfl⟩
    go_wp2
    go_ret
    exact ⟨_, rfl, .inr (.inl ⟨_, rfl⟩), K1.out.trans (kept_alloc _ _)⟩
  | some i =>
    obtain ⟨⟨t1, v1, rfl, hne1⟩, i0, i1, hc⟩ := hS
    have HC := Lib.hid hc
    clear hc
    go_enter Tryz.func67, Tryz.ntmps67
    go_wp2_with fail
    refine (HC.out _).mono ?_
    rintro e w2 ⟨rfl, hk2⟩
    have K2 := Lib.hid (K1.out.trans hk2)
    clear hk2
    go_wp2_with fail
    refine (clamp_any i 0 (L : Int) _ i0 i1 (by omega) (by omega) (by omega)).mono ?_
    rintro e w3 ⟨rfl, rfl⟩
    go_wp2_with fail
    refine (toIntCeil_bad _ HB.out _).mono ?_
    rintro e w2 ⟨rfl, rfl⟩
    go_wp2
    go_ret
    exact ⟨_, rfl, .inr (.inl ⟨_, rfl⟩), K2.out.trans (kept_alloc _ _)⟩
/-- What is cut: a string, an array. -/
def CutV (x : Value) : Prop := (∃ v : ByteArray, x = sI v ∧ v.size ≤ 1048576) ∨ ∃ va L vc, x = .iface 62 (.slice va L vc) ∧ L ≤ 1048576
theorem funcSlice_bad (x0 x sv ev : Value) (hx : CutV x) (hb : BadV sv ∨ ((∃ S, Ix 80 sv S) ∧ BadV ev)) (w : World) : Calls Tryz.prog 51 #[x0, x, ev, sv] w (SomeV ErrV w) := by
  have fin : ∀ (v : ByteArray), v.size ≤ 1048576 → Calls Tryz.prog 68 #[.string v, ev, sv] w (SomeV ErrV w) := fun v hv => by
    rcases hb with h | ⟨⟨S, h1⟩, h2⟩
    · exact sliceString_bad_s v hv sv ev h w
    · exact sliceString_bad_e v hv sv ev S h1 h2 w
  have fin2 : ∀ va L vc, L ≤ 1048576 → Calls Tryz.prog 67 #[.slice va L vc, ev, sv] w (SomeV ErrV w) := fun va L vc hv => by
    rcases hb with h | ⟨⟨S, h1⟩, h2⟩
    · exact slice_bad_s va L vc hv sv ev h w
    · exact slice_bad_e va L vc hv sv ev S h1 h2 w
  rcases hx with ⟨v, rfl, hv⟩ | ⟨va, L, vc, rfl, hv⟩
  · have HF := Lib.hid (fin v hv)
    clear fin fin2 hb hv
    go_enter Tryz.func51, Tryz.ntmps51
    go_wp2_with fail
    refine HF.out.mono ?_
    rintro e w' ⟨r, rfl, hr, hk⟩
    have K := Lib.hid (And.intro hr hk)
    clear hr hk
    go_wp2
    go_ret
    exact ⟨_, rfl, K.out⟩
  · have HF := Lib.hid (fin2 va L vc hv)
    clear fin fin2 hb hv
    go_enter Tryz.func51, Tryz.ntmps51
    go_wp2_with fail
    refine HF.out.mono ?_
    rintro e w' ⟨r, rfl, hr, hk⟩
    have K := Lib.hid (And.intro hr hk)
    clear hr hk
    go_wp2
    go_ret
    exact ⟨_, rfl, K.out⟩
theorem ZZ_err (k : Int) (str : ByteArray) (ar : Value) (ek e sk s : Int) (ef sf : Nat) (V X Y : Value → Prop) (w : World)
    (hv : Calls Tryz.prog 52 #[.int .i64 k, .string str, ar, .int .i64 e, .float .f64 ef] w (SomeV V w))
    (he : ∀ w, Calls Tryz.prog 53 #[.int .i64 ek, .int .i64 e, .float .f64 ef, .string str] w (SomeV X w))
    (hs : ∀ w, Calls Tryz.prog 53 #[.int .i64 sk, .int .i64 s, .float .f64 sf, .string str] w (SomeV Y w))
    (hf : ∀ x y z w, V x → X y → Y z → Calls Tryz.prog 51 #[.nilIface, x, y, z] w (SomeV ErrV w)) :
    Calls Tryz.prog 28 #[.int .i64 k, .string str, ar, .int .i64 ek, .int .i64 e, .float .f64 ef, .int .i64 sk, .int .i64 s, .float .f64 sf] w fun e' w' => e' = .returned (.tuple #[.int .i64 3, .string ⟨#[]⟩, .slice none 0 0]) ∧ Kept w w' := by
  have HV := Lib.hid hv
  have HE := Lib.hid he
  have HS := Lib.hid hs
  have HF := Lib.hid hf
  clear hv he hs hf
  go_enter Tryz.func28, Tryz.ntmps28
  go_wp2_with fail
  refine HV.out.mono ?_
  rintro e1 w1 ⟨x, rfl, hx, k1⟩
  have X1 := Lib.hid hx
  have K1 := Lib.hid k1
  clear hx k1
  go_wp2_with fail
  refine (HE.out w1).mono ?_
  rintro e1 w2 ⟨y, rfl, hy, k2⟩
  have Y1 := Lib.hid hy
  have K2 := Lib.hid (K1.out.trans k2)
  clear hy k2
  go_wp2_with fail
  refine (HS.out w2).mono ?_
  rintro e1 w3 ⟨zz, rfl, hz, k3⟩
  have Z1 := Lib.hid hz
  have K3 := Lib.hid (K2.out.trans k3)
  clear hz k3
  go_wp2_with fail
  refine (HF.out x y zz w3 X1.out Y1.out Z1.out).mono ?_
  rintro e1 w4 ⟨r, rfl, hr, k4⟩
  have K4 := Lib.hid (K3.out.trans k4)
  clear k4
  rcases hr with ⟨v, rfl⟩ | ⟨v, rfl⟩ | ⟨v, rfl⟩
  all_goals
    go_wp2
    go_ret3
    exact ⟨rfl, K4.out⟩
theorem ZZ_nil (str : ByteArray) (ar : Value) (ek e sk s : Int) (ef sf : Nat) (X Y : Value → Prop) (w : World)
    (he : ∀ w, Calls Tryz.prog 53 #[.int .i64 ek, .int .i64 e, .float .f64 ef, .string str] w (SomeV X w))
    (hs : ∀ w, Calls Tryz.prog 53 #[.int .i64 sk, .int .i64 s, .float .f64 sf, .string str] w (SomeV Y w)) :
    Calls Tryz.prog 28 #[.int .i64 0, .string str, ar, .int .i64 ek, .int .i64 e, .float .f64 ef, .int .i64 sk, .int .i64 s, .float .f64 sf] w fun e' w' => e' = .returned (.tuple #[.int .i64 0, .string ⟨#[]⟩, .slice none 0 0]) ∧ Kept w w' := by
  have HE := Lib.hid he
  have HS := Lib.hid hs
  clear he hs
  have HV : Hid (Calls Tryz.prog 52 #[.int .i64 0, .string str, ar, .int .i64 e, .float .f64 ef] w fun e w' => e = .returned .nilIface ∧ w = w') := Lib.hid (by
    go_enter Tryz.func52, Tryz.ntmps52
    go_wp2
    go_ret
    exact ⟨rfl, rfl⟩)
  go_enter Tryz.func28, Tryz.ntmps28
  go_wp2_with fail
  refine HV.out.mono ?_
  rintro e1 w1 ⟨rfl, rfl⟩
  go_wp2_with fail
  refine (HE.out w).mono ?_
  rintro e1 w2 ⟨y, rfl, _, k2⟩
  have K2 := Lib.hid k2
  clear k2
  go_wp2_with fail
  refine (HS.out w2).mono ?_
  rintro e1 w3 ⟨zz, rfl, _, k3⟩
  have K3 := Lib.hid (K2.out.trans k3)
  clear k3
  go_wp2_with fail
  refine (funcSlice_nil .nilIface y zz w3).mono ?_
  rintro e1 w4 ⟨rfl, rfl⟩
  go_wp2
  go_ret3
  exact ⟨rfl, K3.out⟩
end Go.Proofs.YticjhbklcpoonaaGreatDoor
