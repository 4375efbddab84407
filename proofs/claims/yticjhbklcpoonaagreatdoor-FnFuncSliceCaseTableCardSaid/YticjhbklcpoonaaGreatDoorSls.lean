/- The contracts of clampIndex, toInt and toIntCeil at ints, sliceString, slice, funcSlice. -/
import Derived.Test.YticjhbklcpoonaaGreatDoorSlices
import Derived.Test.YticjhbklcpoonaaGreatDoorFacts
import Derived.Test.YticjhbklcpoonaaGreatDoorUtf
import Derived.Deep.DeepCutAuto
import Derived.Laws.RangeAny
namespace Go.Proofs.YticjhbklcpoonaaGreatDoor
open Go.RowKit Go.Gq
set_option maxRecDepth 100000
abbrev iI (z : Int) : Value := .iface 3 (.int .i64 z)
abbrev sI (s : ByteArray) : Value := .iface 9 (.string s)
/-- What clampIndex answers. -/
def cl (i lo hi : Int) : Int :=
  if i < 0 then (if i + hi < lo then lo else if i + hi < hi then i + hi else hi) else (if i < lo then lo else if i < hi then i else hi)
theorem cl_bd (i lo hi : Int) (h : lo ≤ hi) : lo ≤ cl i lo hi ∧ cl i lo hi ≤ hi := by
  unfold cl
  repeat' split
  all_goals omega
/-- Where a piece begins, where it ends, of L. -/
def stO (L : Nat) : Option Int → Nat
  | none => 0
  | some i => (cl i 0 (L : Int)).toNat
def enO (L st : Nat) : Option Int → Nat
  | none => L
  | some i => (cl i (st : Int) (L : Int)).toNat
theorem stO_le (L : Nat) (S : Option Int) : stO L S ≤ L := by
  cases S with
  | none => exact Nat.zero_le _
  | some i => have := cl_bd i 0 L (by omega); simp only [stO]; omega
theorem enO_bd (L st : Nat) (E : Option Int) (h : st ≤ L) : st ≤ enO L st E ∧ enO L st E ≤ L := by
  cases E with
  | none => exact ⟨h, Nat.le_refl _⟩
  | some i => have := cl_bd i st L (by omega); simp only [enO]; omega
theorem clamp_any (i lo hi : Int) (w : World) (h0 : -9223372036854775808 ≤ i) (h1 : i ≤ 9223372036854775807) (h2 : 0 ≤ lo) (h3 : lo ≤ hi) (h4 : hi ≤ 1073741824) :
    Calls Tryz.prog 81 #[.int .i64 i, .int .i64 lo, .int .i64 hi] w fun e w' => e = .returned (.int .i64 (cl i lo hi)) ∧ w = w' := by
  have hs : i < 0 → IntKind.i64.wrap (i + hi) = i + hi := fun h => IntWalk.i64_in _ (by omega)
  by_cases c0 : i < 0
  · have hs' := hs c0
    clear hs
    by_cases c1 : i + hi < lo
    · go_enter Tryz.func81, Tryz.ntmps81
      go_wp2
      go_ret
      refine ⟨ret_int ?_, rfl⟩
      unfold cl; rw [if_pos c0, if_pos c1]
    · by_cases c2 : i + hi < hi
      · go_enter Tryz.func81, Tryz.ntmps81
        go_wp2
        go_ret
        refine ⟨ret_int ?_, rfl⟩
        unfold cl; rw [if_pos c0, if_neg (by omega), if_pos c2]
      · omega
  · clear hs
    by_cases c1 : i < lo
    · go_enter Tryz.func81, Tryz.ntmps81
      go_wp2
      go_ret
      refine ⟨ret_int ?_, rfl⟩
      unfold cl; rw [if_neg (by omega), if_pos c1]
    · by_cases c2 : i < hi
      · go_enter Tryz.func81, Tryz.ntmps81
        go_wp2
        go_ret
        refine ⟨ret_int ?_, rfl⟩
        unfold cl; rw [if_neg (by omega), if_neg (by omega), if_pos c2]
      · go_enter Tryz.func81, Tryz.ntmps81
        go_wp2
        go_ret
        refine ⟨ret_int ?_, rfl⟩
        unfold cl; rw [if_neg (by omega), if_neg (by omega), if_neg (by omega)]
theorem toInt_int (n : Int) (w : World) : Calls Tryz.prog 80 #[iI n] w fun e w' => e = .returned (.tuple #[.int .i64 n, .bool true]) ∧ w = w' := by
  go_enter Tryz.func80, Tryz.ntmps80
  go_wp2
  go_ret2
  exact ⟨rfl, rfl⟩
theorem toIntCeil_int (n : Int) (w : World) : Calls Tryz.prog 82 #[iI n] w fun e w' => e = .returned (.tuple #[.int .i64 n, .bool true]) ∧ w = w' := by
  go_enter Tryz.func82, Tryz.ntmps82
  go_wp2_with fail
  refine (toInt_int n w).mono ?_
  rintro e w' ⟨rfl, rfl⟩
  go_wp2
  go_ret2
  exact ⟨rfl, rfl⟩
/-- A bound of a piece: null, or a value that fn takes as the int n. -/
def Ix (fn : Nat) (x : Value) : Option Int → Prop
  | none => x = .nilIface
  | some n => (∃ t v, x = .iface t v ∧ ∀ w, (binOp .neq 20 (.iface t v) .nilIface).run Tryz.prog w = .ok (.bool true) w) ∧ -9223372036854775808 ≤ n ∧ n ≤ 9223372036854775807 ∧ ∀ w, Calls Tryz.prog fn #[x] w fun e w' => e = .returned (.tuple #[.int .i64 n, .bool true]) ∧ Kept w w'
theorem ix_int (fn : Nat) (n : Int) (h : ∀ w, Calls Tryz.prog fn #[iI n] w fun e w' => e = .returned (.tuple #[.int .i64 n, .bool true]) ∧ w = w') (h0 : -9223372036854775808 ≤ n) (h1 : n ≤ 9223372036854775807) : Ix fn (iI n) (some n) :=
  ⟨⟨_, _, rfl, fun w => by simp [go_sem]⟩, h0, h1, fun w => (h w).mono fun e w' ⟨a, b⟩ => ⟨a, b ▸ Below.refl _ _⟩⟩
theorem ix_ne {fn : Nat} {x : Value} {o : Option Int} (h : Ix fn x o) (w : World) : (binOp .neq 20 x .nilIface).run Tryz.prog w = .ok (.bool o.isSome) w := by
  cases o with
  | none => have e : x = .nilIface := h; subst e; simp [go_sem]
  | some n => obtain ⟨⟨t, v, rfl, h⟩, _⟩ := h; exact h w
theorem ix_guard {fn : Nat} {x : Value} {o : Option Int} (h : Ix fn x o) (y : Operand) (w : World) : (eqGuard .neq 20 y (.const .nilIface) x .nilIface).run Tryz.prog w = .ok () w := by
  cases o with
  | none => have e : x = .nilIface := h; subst e; simp [eqGuard]
  | some n => obtain ⟨⟨t, v, rfl, h⟩, _⟩ := h; simp [eqGuard]
theorem cl_st {L : Nat} {i : Int} : cl i 0 (L : Int) = ((stO L (some i) : Nat) : Int) := by have := cl_bd i 0 L (by omega); simp only [stO]; omega
theorem cl_en {L st : Nat} {i : Int} (h : st ≤ L) : cl i (st : Int) (L : Int) = ((enO L st (some i) : Nat) : Int) := by have := cl_bd i st L (by omega); simp only [enO]; omega
set_option maxHeartbeats 4000000 in
theorem sliceString_any (v : ByteArray) (sv ev : Value) (S E : Option Int) (hS : Ix 80 sv S) (hE : Ix 82 ev E) (w : World) (hv : v.size ≤ 1048576) :
    Calls Tryz.prog 68 #[.string v, ev, sv] w fun e w' => e = .returned (sI (v.extract (rpos v (stO (rcnt v) S)) (rpos v (enO (rcnt v) (stO (rcnt v) S) E)))) ∧ Kept w w' := by
  have hL := rcnt_le v
  have hst := stO_le (rcnt v) S
  have hen := enO_bd (rcnt v) (stO (rcnt v) S) E hst
  obtain ⟨st, est⟩ : ∃ st, st = stO (rcnt v) S := ⟨_, rfl⟩
  obtain ⟨en, een⟩ : ∃ en, en = enO (rcnt v) st E := ⟨_, rfl⟩
  rw [← est, ← een]
  rw [← est] at hst hen
  rw [← een] at hen
  obtain ⟨L, eL⟩ : ∃ L, L = rcnt v := ⟨_, rfl⟩
  obtain ⟨a, cap, W1, hconv, hk1⟩ : ∃ a cap W1, (convert 9 156 (.string v)).run Tryz.prog w = .ok (.slice (some a) L cap) W1 ∧ Kept w W1 := by
    rw [eL]
    exact ⟨_, _, _, run_runes_of_string w _ _ 21 v Tryz.underlying9 Tryz.underlying156 Tryz.underlying21 (by unfold rcnt at hL; omega), (kept_drew w).trans (kept_alloc _ _)⟩
  rw [← eL] at est een hL hst hen
  have K1 := Lib.hid hk1
  have ES := Lib.hid est
  have EE := Lib.hid een
  have EL := Lib.hid eL
  have b1 := hst; have b2 := hen.1; have b3 := hen.2
  clear hk1 est een eL hst hen
  have hS1 := ix_ne hS
  have hE1 := ix_ne hE
  have hS2 := ix_guard hS
  have hE2 := ix_guard hE
  go_enter Tryz.func68, Tryz.ntmps68
  go_upto_if 20 with fail
  go_cut [7] (fun s7 wx => s7 = .int .i64 (st : Int) ∧ Kept w wx)
  case first =>
    cases S with
    | none =>
      go_wp2_with fail
      go_meet
      have e0 := ES.out
      simp only [stO] at e0
      exact ⟨by rw [e0]; rfl, K1.out⟩
    | some i =>
      obtain ⟨_, i0, i1, hc⟩ := hS
      go_wp2_with fail
      refine (hc W1).mono ?_
      rintro e w2 ⟨rfl, hk2⟩
      have K2 := Lib.hid (K1.out.trans hk2)
      clear hk2 hc
      go_wp2_with fail
      refine (clamp_any i 0 (L : Int) w2 i0 i1 (by omega) (by omega) (by omega)).mono ?_
      rintro e w3 ⟨rfl, rfl⟩
      go_wp2_with fail
      go_meet
      refine ⟨?_, K2.out⟩
      rw [cl_st, ← ES.out]
  case rest =>
  obtain ⟨rfl, hk2⟩ := hcut
  have K2 := Lib.hid hk2
  clear hk2 K1 ES hS hS1 hS2 hconv
  go_upto_if 35 with fail
  go_cut [8] (fun s8 wx => s8 = .int .i64 (en : Int) ∧ Kept w wx)
  case first =>
    cases E with
    | none =>
      go_wp2_with fail
      go_meet
      have e0 := EE.out
      simp only [enO] at e0
      exact ⟨by rw [e0], K2.out⟩
    | some i =>
      obtain ⟨_, i0, i1, hc⟩ := hE
      go_wp2_with fail
      refine (hc _).mono ?_
      rintro e w2 ⟨rfl, hk3⟩
      have K3 := Lib.hid (K2.out.trans hk3)
      clear hk3 hc
      go_wp2_with fail
      refine (clamp_any i (st : Int) (L : Int) w2 i0 i1 (by omega) (by omega) (by omega)).mono ?_
      rintro e w3 ⟨rfl, rfl⟩
      go_wp2_with fail
      go_meet
      refine ⟨?_, K3.out⟩
      rw [cl_en b1, ← EE.out]
  case rest =>
  obtain ⟨rfl, hk3⟩ := hcut
  have K3 := Lib.hid hk3
  clear hk3 K2 EE hE hE1 hE2
  go_upto_if 53 with fail
  go_cut [7] (fun s7 wx => s7 = .int .i64 (rpos v st : Int) ∧ Kept w wx)
  case first =>
    by_cases h1 : st < L
    · go_wp2_with fail
      rename World => Z
      go_loopw [7] (fun n wr => ∃ (k : Nat) (m : Int), Hid ((k : Int) + m = (st : Int)) ∧ 0 ≤ m ∧ m ≤ 1048576 ∧ wr = Z.iter v (rpos v k) ∧ n = .int .i64 m) (fun _ wr => v.size - wr.iterPos Z.heap.size)
      case atStart => exact ⟨0, (st : Int), Lib.hid (by omega), by omega, by omega, rfl, rfl⟩
      case round =>
        obtain ⟨k, m, hm, m0, m1, rfl, rfl⟩ := hrel
        have hp : rpos v k < v.size := (rpos_iff v k).2 (by have := EL.out; have := hm.out; omega)
        have HP := Lib.hid hp
        have hnx : ∀ ty, (Instr.next (.pointer (some ⟨Z.heap.size, 0, none⟩)) true ty).run Tryz.prog (Z.iter v (rpos v k)) = _ := fun ty => run_next_any Z v (rpos v k) ty hp
        have hq : IntKind.i64.wrap (m - 1) = m - 1 := IntWalk.i64_in _ (by omega)
        clear hp
        by_cases hz : m = 0
        · have e0 : k = st := by have := hm.out; omega
          have HE := Lib.hid e0
          subst hz
          clear hm e0 hq
          go_wp2_with fail
          go_meet
          refine ⟨by rw [HE.out], K3.out.trans ?_⟩
          exact Kept.trans (kept_alloc Z _) (Below.refl _ _)
        · have hz1 : 1 ≤ m := by omega
          go_wp2_with fail
          go_roundw
          case rel => exact ⟨k + 1, m - 1, Lib.hid (by have := hm.out; omega), by omega, by omega, by rw [rpos_succ v k HP.out]; rfl, rfl⟩
          case measure =>
            simp
            have := rw1_pos v _ HP.out
            unfold rw1 at this
            have := HP.out
            omega
    · go_wp2_with fail
      go_meet
      obtain rfl : st = L := by omega
      refine ⟨by rw [rpos_cnt v (by have := EL.out; omega)], K3.out⟩
  case rest =>
  obtain ⟨rfl, hk4⟩ := hcut
  have K4 := Lib.hid hk4
  clear hk4 K3
  go_upto_if 68 with fail
  go_cut [8] (fun s8 wx => s8 = .int .i64 (rpos v en : Int) ∧ Kept w wx)
  case first =>
    by_cases h1 : en < L
    · go_wp2_with fail
      rename World => Z
      go_loopw [8] (fun n wr => ∃ (k : Nat) (m : Int), Hid ((k : Int) + m = (en : Int)) ∧ 0 ≤ m ∧ m ≤ 1048576 ∧ wr = Z.iter v (rpos v k) ∧ n = .int .i64 m) (fun _ wr => v.size - wr.iterPos Z.heap.size)
      case atStart => exact ⟨0, (en : Int), Lib.hid (by omega), by omega, by omega, rfl, rfl⟩
      case round =>
        obtain ⟨k, m, hm, m0, m1, rfl, rfl⟩ := hrel
        have hp : rpos v k < v.size := (rpos_iff v k).2 (by have := EL.out; have := hm.out; omega)
        have HP := Lib.hid hp
        have hnx : ∀ ty, (Instr.next (.pointer (some ⟨Z.heap.size, 0, none⟩)) true ty).run Tryz.prog (Z.iter v (rpos v k)) = _ := fun ty => run_next_any Z v (rpos v k) ty hp
        have hq : IntKind.i64.wrap (m - 1) = m - 1 := IntWalk.i64_in _ (by omega)
        clear hp
        by_cases hz : m = 0
        · have e0 : k = en := by have := hm.out; omega
          have HE := Lib.hid e0
          subst hz
          clear hm e0 hq
          go_wp2_with fail
          go_meet
          refine ⟨by rw [HE.out], K4.out.trans ?_⟩
          exact Kept.trans (kept_alloc Z _) (Below.refl _ _)
        · have hz1 : 1 ≤ m := by omega
          go_wp2_with fail
          go_roundw
          case rel => exact ⟨k + 1, m - 1, Lib.hid (by have := hm.out; omega), by omega, by omega, by rw [rpos_succ v k HP.out]; rfl, rfl⟩
          case measure =>
            simp
            have := rw1_pos v _ HP.out
            unfold rw1 at this
            have := HP.out
            omega
    · go_wp2_with fail
      go_meet
      obtain rfl : en = L := by omega
      refine ⟨by rw [rpos_cnt v (by have := EL.out; omega)], K4.out⟩
  case rest =>
  obtain ⟨rfl, hk5⟩ := hcut
  have h1 := rpos_le_of v b2
  have h2 := rpos_le v en
  have K5 := Lib.hid hk5
  clear hk5 K4
  go_wp2
  go_ret
  exact ⟨rfl, K5.out⟩
end Go.Proofs.YticjhbklcpoonaaGreatDoor
