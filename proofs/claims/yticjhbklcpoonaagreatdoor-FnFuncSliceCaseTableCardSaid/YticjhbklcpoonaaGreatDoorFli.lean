/- Floats taken as bounds: the program's floatToInt and math.Ceil, the law's zzTrunc and zzCeil. -/
import Derived.Test.YticjhbklcpoonaaGreatDoorCvt
import Derived.Test.YticjhbklcpoonaaGreatDoorFlt
import Derived.Laws.FloatArith
import Derived.Laws.Externs
namespace Go.Proofs.YticjhbklcpoonaaGreatDoor
open Go.RowKit Go.Gq
set_option maxRecDepth 100000
/-- What floatToInt gives at a number. -/
noncomputable def ftn (s : Bool) (N : Nat) : Int := if s then (if N ≤ 9223372036854775808 * sc then -((N / sc : Nat) : Int) else -9223372036854775808) else (if N < 9223372036854775808 * sc then ((N / sc : Nat) : Int) else 9223372036854775807)
theorem sg_f (q : Nat) : sg false q = (q : Int) := rfl
theorem sg_t (q : Nat) : sg true q = -(q : Int) := rfl
theorem cmp_lt {a b : Int} (h : a < b) : compare a b = .lt := by simp [compare, compareOfLessAndEq, h]
theorem cmp_eq (a : Int) : compare a a = .eq := by simp [compare, compareOfLessAndEq]
theorem cmp_gt {a b : Int} (h : b < a) : compare a b = .gt := by
  have h1 : ¬ a < b := by omega
  have h2 : a ≠ b := by omega
  simp [compare, compareOfLessAndEq, h1, h2]
theorem ord_lt {x y : Nat} {s t : Bool} {N M : Nat} (hx : FNum x s N) (hy : FNum y t M) (h : sg s N < sg t M) : FloatKind.f64.format.order x y = some .lt := by rw [← cmp_lt h]; exact order_num hx hy
theorem ord_gt {x y : Nat} {s t : Bool} {N M : Nat} (hx : FNum x s N) (hy : FNum y t M) (h : sg t M < sg s N) : FloatKind.f64.format.order x y = some .gt := by rw [← cmp_gt h]; exact order_num hx hy
theorem ord_eq {x y : Nat} {s t : Bool} {N M : Nat} (hx : FNum x s N) (hy : FNum y t M) (h : sg s N = sg t M) : FloatKind.f64.format.order x y = some .eq := by
  have e := order_num hx hy
  rw [h, cmp_eq] at e
  exact e
theorem ord_refl {x : Nat} {s : Bool} {N : Nat} (hx : FNum x s N) : FloatKind.f64.format.order x x = some .eq := ord_eq hx hx rfl
theorem ord_nan {x y : Nat} {s : Bool} {t : Nat} (h : Ieee.double.read x = .nan s t) : FloatKind.f64.format.order x y = none ∧ FloatKind.f64.format.order y x = none := by
  constructor
  · show Ieee.Datum.order (Ieee.double.read x) _ = none
    rw [h]; rfl
  · show Ieee.Datum.order (Ieee.double.read y) (Ieee.double.read x) = none
    rw [h]; cases Ieee.double.read y <;> rfl
theorem ord_inf {x y : Nat} {s : Bool} {t : Bool} {M : Nat} (h : Ieee.double.read x = .infinity s) (hy : FNum y t M) : FloatKind.f64.format.order x y = some (if s then .lt else .gt) ∧ FloatKind.f64.format.order y x = some (if s then .gt else .lt) := by
  obtain ⟨m, i, e, _, _⟩ := hy
  constructor
  · show Ieee.Datum.order (Ieee.double.read x) (Ieee.double.read y) = _
    rw [h, e]; rfl
  · show Ieee.Datum.order (Ieee.double.read y) (Ieee.double.read x) = _
    rw [h, e]; rfl
theorem ord_inf2 {x : Nat} {s : Bool} (h : Ieee.double.read x = .infinity s) : FloatKind.f64.format.order x x = some .eq := by
  show Ieee.Datum.order (Ieee.double.read x) (Ieee.double.read x) = _
  rw [h]; cases s <;> rfl
theorem fti {x : Nat} {s : Bool} {N q : Nat} (hx : FNum x s N) (hq : N / sc = q) (h0 : -9223372036854775808 ≤ sg s q) (h1 : sg s q ≤ 9223372036854775807) : floatToIntVal .f64 x .i64 = some (sg s q) := by
  subst hq
  have e1 : IntKind.i64.min = -9223372036854775808 := by decide
  have e2 : IntKind.i64.max = 9223372036854775807 := by decide
  unfold floatToIntVal
  rw [toInt_num hx]
  simp only [e1, e2]
  rw [if_pos ⟨h0, h1⟩]
theorem q_lt {N K : Nat} (h : N < K * sc) : N / sc < K := by rw [Nat.div_lt_iff_lt_mul sc_pos]; exact h
theorem q_ge {N K : Nat} (h : K * sc ≤ N) : K ≤ N / sc := by rw [Nat.le_div_iff_mul_le sc_pos]; exact h
theorem q_le {N K : Nat} (h : N ≤ K * sc) : N / sc ≤ K := by rw [Nat.div_le_iff_le_mul_add_pred sc_pos]; have := sc_pos; have e := Nat.mul_comm K sc; omega
theorem cv_int {x : Nat} {n : Int} (h : floatToIntVal .f64 x .i64 = some n) (w : World) : (convert 69 3 (.float .f64 x)).run Tryz.prog w = .ok (.int .i64 n) w :=
  run_convert_float_int w _ _ _ _ _ _ (by kernel_rfl) Tryz.underlying3 h
theorem cv_int64 {x : Nat} {n : Int} (h : floatToIntVal .f64 x .i64 = some n) (w : World) : (convert 69 2 (.float .f64 x)).run Tryz.prog w = .ok (.int .i64 n) w :=
  run_convert_float_int w _ _ _ _ _ _ (by kernel_rfl) Tryz.underlying2 h
theorem ftoi_num (x : Nat) (s : Bool) (N : Nat) (h : FNum x s N) (w : World) : Calls Tryz.prog 87 #[.float .f64 x] w fun e w' => e = .returned (.int .i64 (ftn s N)) ∧ w = w' := by
  have hD := sc_pos
  cases s with
  | false =>
    have o1 := ord_lt num_m63 h (by (try rw [sg_f]); (try rw [sg_f]); (try rw [sg_t]); (try rw [sg_t]); omega)
    by_cases hN : N < 9223372036854775808 * sc
    · have o2 := ord_lt h num_63 (by (try rw [sg_f]); (try rw [sg_f]); (try rw [sg_t]); (try rw [sg_t]); omega)
      have hq := q_lt hN
      obtain ⟨q, eq⟩ : ∃ q, N / sc = q := ⟨_, rfl⟩
      rw [eq] at hq
      have hcv := cv_int (fti h eq (by (try rw [sg_f]); (try rw [sg_f]); (try rw [sg_t]); (try rw [sg_t]); omega) (by (try rw [sg_f]); (try rw [sg_f]); (try rw [sg_t]); (try rw [sg_t]); omega))
      have HQ := Lib.hid eq
      clear eq
      have HN := Lib.hid hN
      clear h hN hq hD
      go_enter Tryz.func87, Tryz.ntmps87
      go_wp2
      go_ret
      exact ⟨ret_int (by unfold ftn; rw [if_neg (by decide), if_pos HN.out, HQ.out]; rfl), rfl⟩
    · have o2 : FloatKind.f64.format.order x 4890909195324358656 = some .gt ∨ FloatKind.f64.format.order x 4890909195324358656 = some .eq := by
        by_cases e : N = 9223372036854775808 * sc
        · exact .inr (ord_eq h num_63 (by (try rw [sg_f]); (try rw [sg_f]); (try rw [sg_t]); (try rw [sg_t]); omega))
        · exact .inl (ord_gt h num_63 (by (try rw [sg_f]); (try rw [sg_f]); (try rw [sg_t]); (try rw [sg_t]); omega))
      have o3 := ord_gt h num_0 (by (try rw [sg_f]); (try rw [sg_f]); (try rw [sg_t]); (try rw [sg_t]); omega)
      have HN := Lib.hid hN
      clear h hN hD
      rcases o2 with o2 | o2
      all_goals
        go_enter Tryz.func87, Tryz.ntmps87
        go_wp2
        go_ret
        exact ⟨ret_int (by unfold ftn; rw [if_neg (by decide), if_neg HN.out]), rfl⟩
  | true =>
    by_cases hN : N ≤ 9223372036854775808 * sc
    · have o1 : FloatKind.f64.format.order 14114281232179134464 x = some .lt ∨ FloatKind.f64.format.order 14114281232179134464 x = some .eq := by
        by_cases e : N = 9223372036854775808 * sc
        · exact .inr (ord_eq num_m63 h (by (try rw [sg_f]); (try rw [sg_f]); (try rw [sg_t]); (try rw [sg_t]); omega))
        · exact .inl (ord_lt num_m63 h (by (try rw [sg_f]); (try rw [sg_f]); (try rw [sg_t]); (try rw [sg_t]); omega))
      have o2 := ord_lt h num_63 (by (try rw [sg_f]); (try rw [sg_f]); (try rw [sg_t]); (try rw [sg_t]); omega)
      have hq := q_le hN
      obtain ⟨q, eq⟩ : ∃ q, N / sc = q := ⟨_, rfl⟩
      rw [eq] at hq
      have hcv := cv_int (fti h eq (by (try rw [sg_f]); (try rw [sg_f]); (try rw [sg_t]); (try rw [sg_t]); omega) (by (try rw [sg_f]); (try rw [sg_f]); (try rw [sg_t]); (try rw [sg_t]); omega))
      have HQ := Lib.hid eq
      clear eq
      have HN := Lib.hid hN
      clear h hN hq hD
      rcases o1 with o1 | o1
      all_goals
        go_enter Tryz.func87, Tryz.ntmps87
        go_wp2
        go_ret
        exact ⟨ret_int (by unfold ftn; rw [if_pos rfl, if_pos HN.out, HQ.out]; rfl), rfl⟩
    · have o1 := ord_gt num_m63 h (by (try rw [sg_f]); (try rw [sg_f]); (try rw [sg_t]); (try rw [sg_t]); omega)
      have o3 := ord_lt h num_0 (by (try rw [sg_f]); (try rw [sg_f]); (try rw [sg_t]); (try rw [sg_t]); omega)
      have HN := Lib.hid hN
      clear h hN hD
      go_enter Tryz.func87, Tryz.ntmps87
      go_wp2
      go_ret
      exact ⟨ret_int (by unfold ftn; rw [if_pos rfl, if_neg HN.out]), rfl⟩
theorem ftoi_inf (x : Nat) (s : Bool) (h : Ieee.double.read x = .infinity s) (w : World) : Calls Tryz.prog 87 #[.float .f64 x] w fun e w' => e = .returned (.int .i64 (if s then -9223372036854775808 else 9223372036854775807)) ∧ w = w' := by
  have o1 := (ord_inf h num_m63).2
  have o2 := (ord_inf h num_63).1
  have o3 := (ord_inf h num_0).1
  clear h
  cases s
  all_goals
    simp only [if_true, if_false, Bool.false_eq_true] at o1 o2 o3 ⊢
    go_enter Tryz.func87, Tryz.ntmps87
    go_wp2
    go_ret
    exact ⟨rfl, rfl⟩
theorem ftoi_nan (x : Nat) (s : Bool) (t : Nat) (h : Ieee.double.read x = .nan s t) (w : World) : Calls Tryz.prog 87 #[.float .f64 x] w fun e w' => e = .returned (.int .i64 (-9223372036854775808)) ∧ w = w' := by
  have o1 := (ord_nan (y := 14114281232179134464) h).2
  have o2 := (ord_nan (y := 4890909195324358656) h).1
  have o3 := (ord_nan (y := 0) h).1
  clear h
  go_enter Tryz.func87, Tryz.ntmps87
  go_wp2
  go_ret
  exact ⟨rfl, rfl⟩
abbrev fI (x : Nat) : Value := .iface 69 (.float .f64 x)
theorem run_archCeil (args : Array Value) (w : World) : (callFunc 101 args).run Tryz.prog w = ((Extern.MathFloor.toIntegral "math.archCeil" .up args).run Tryz.prog w).andThen fun v w' => .ok (.value v) w' :=
  run_callFunc_extern Tryz.func101 (by kernel_rfl) (by kernel_rfl) (by kernel_rfl) (by kernel_rfl) args w
theorem ti_eq (x : Nat) : Extern.MathFloor.toIntegral "math.archCeil" .up #[.float .f64 x] = (match FloatKind.f64.decode x with
    | .nan s t => if FloatKind.f64.format.quiet t = t then pure (.float .f64 x) else (choose (.extern "math.Floor,Ceil,Trunc,RoundToEven.signallingNaN kept" 2) >>= fun kept => pure (.float .f64 (if kept == 1 then x else FloatKind.f64.encode (.nan s (FloatKind.f64.format.quiet t)))))
    | d => pure (.float .f64 (FloatKind.f64.encode (d.integral .up)))) := rfl
/-- What math.Ceil gives. -/
def CeilIs (x y : Nat) : Prop :=
  (∃ s t s' t', Ieee.double.read x = .nan s t ∧ Ieee.double.read y = .nan s' t') ∨ (∃ s, Ieee.double.read x = .infinity s ∧ Ieee.double.read y = .infinity s) ∨ ∃ s N, FNum x s N ∧ y = Ieee.double.write (.number s (N / sc + (!s && N % sc != 0).toNat) 0)
theorem ceil_of (x y : Nat) (w w1 : World) (h : (Extern.MathFloor.toIntegral "math.archCeil" .up #[.float .f64 x]).run Tryz.prog w = .ok (.float .f64 y) w1) (hk : Kept w w1) (hc : CeilIs x y) :
    Calls Tryz.prog 91 #[.float .f64 x] w fun e w' => ∃ y, e = .returned (.float .f64 y) ∧ CeilIs x y ∧ Kept w w' := by
  have hr : (callFunc 101 #[.float .f64 x]).run Tryz.prog w = .ok (.value (.float .f64 y)) w1 := by rw [run_archCeil, h]; rfl
  have HC := Lib.hid (And.intro hc hk)
  clear h hc hk
  go_enter Tryz.func91, Tryz.ntmps91
  go_wp2
  go_ret
  exact ⟨y, rfl, HC.out⟩
theorem read_winf (s : Bool) : Ieee.double.read (Ieee.double.write (.infinity s)) = .infinity s := by
  show Ieee.double.read (Ieee.double.word s Ieee.double.infRung) = _
  rw [dbl.2.2.1, read_word s _ (by decide), if_neg (by decide), if_neg (by decide), if_pos rfl]
theorem read_wnan (s : Bool) (t : Nat) (ht : t < 2 ^ 52) : ∃ t', Ieee.double.read (Ieee.double.write (.nan s (Ieee.double.quiet t))) = .nan s t' := by
  have hq : Ieee.double.quiet t = t ||| 2 ^ 51 := by unfold Ieee.Format.quiet; rfl
  have h1 : t ||| 2 ^ 51 < 2 ^ 52 := Nat.or_lt_two_pow ht (by decide)
  have h2 : 2 ^ 51 ≤ t ||| 2 ^ 51 := Nat.right_le_or
  show ∃ t', Ieee.double.read (Ieee.double.word s (Ieee.double.infRung + Ieee.double.quiet t % Ieee.double.binade)) = _
  rw [hq, dbl.2.2.1, dbl.2.1]
  generalize t ||| 2 ^ 51 = u at *
  rw [Nat.mod_eq_of_lt h1, read_word s _ (by omega), if_neg (by omega), if_neg (by omega), if_neg (by omega)]
  exact ⟨_, rfl⟩
theorem ceil_any (x : Nat) (w : World) : Calls Tryz.prog 91 #[.float .f64 x] w fun e w' => ∃ y, e = .returned (.float .f64 y) ∧ CeilIs x y ∧ Kept w w' := by
  rcases read_cases x with ⟨s, t, h, _, ht⟩ | ⟨s, h⟩ | ⟨s, N, h⟩
  · have h' : FloatKind.f64.decode x = .nan s t := h
    obtain ⟨t', hw⟩ := read_wnan s t ht
    by_cases hq : FloatKind.f64.format.quiet t = t
    · exact ceil_of x x w w (by rw [ti_eq, h']; simp [hq]) (Below.refl _ _) (.inl ⟨_, _, _, _, h, h⟩)
    · obtain ⟨k, w1, hk, hkw⟩ : ∃ k w1, (choose (.extern "math.Floor,Ceil,Trunc,RoundToEven.signallingNaN kept" 2)).run Tryz.prog w = .ok k w1 ∧ Kept w w1 := by
        rw [run_choose_drew]
        split
        · exact ⟨_, _, rfl, Below.refl _ _⟩
        · exact ⟨_, _, rfl, kept_drew _⟩
      have hr : (Extern.MathFloor.toIntegral "math.archCeil" .up #[.float .f64 x]).run Tryz.prog w = .ok (.float .f64 (if k == 1 then x else FloatKind.f64.encode (.nan s (FloatKind.f64.format.quiet t)))) w1 := by
        rw [ti_eq, h']
        simp only [if_neg hq, Sem.run_bind, hk]
        rfl
      refine ceil_of x _ w w1 hr hkw ?_
      cases k == 1
      · exact .inl ⟨_, _, _, _, h, hw⟩
      · exact .inl ⟨_, _, _, _, h, h⟩
  · have h' : FloatKind.f64.decode x = .infinity s := h
    exact ceil_of x (Ieee.double.write (.infinity s)) w w (by rw [ti_eq, h']; rfl) (Below.refl _ _) (.inr (.inl ⟨s, h, read_winf s⟩))
  · have hu := up_num h
    obtain ⟨m, i, e1, h1, h2⟩ := h
    have h' : FloatKind.f64.decode x = .number s m i := e1
    rw [h'] at hu
    exact ceil_of x _ w w (by rw [ti_eq, h']; simp only [hu]; rfl) (Below.refl _ _) (.inr (.inr ⟨s, N, ⟨m, i, e1, h1, h2⟩, rfl⟩))
theorem ztr_nan (x : Nat) (s : Bool) (t : Nat) (h : Ieee.double.read x = .nan s t) (w : World) : Calls Tryz.prog 39 #[.float .f64 x] w fun e w' => e = .returned (.int .i64 (-4611686018427387904)) ∧ w = w' := by
  have o1 := (ord_nan (y := x) h).1
  clear h
  go_enter Tryz.func39, Tryz.ntmps39
  go_wp2
  go_ret
  exact ⟨rfl, rfl⟩
theorem ztr_inf (x : Nat) (s : Bool) (h : Ieee.double.read x = .infinity s) (w : World) : Calls Tryz.prog 39 #[.float .f64 x] w fun e w' => e = .returned (.int .i64 (if s then -4611686018427387904 else 4611686018427387904)) ∧ w = w' := by
  have o0 := ord_inf2 h
  have o1 := (ord_inf h num_1e15).1
  have o2 := (ord_inf h num_m1e15).1
  clear h
  cases s
  all_goals
    simp only [if_true, if_false, Bool.false_eq_true] at o1 o2 ⊢
    go_enter Tryz.func39, Tryz.ntmps39
    go_wp2
    go_ret
    exact ⟨rfl, rfl⟩
theorem ztr_big (x : Nat) (s : Bool) (N : Nat) (h : FNum x s N) (hN : 1000000000000000 * sc ≤ N) (w : World) : Calls Tryz.prog 39 #[.float .f64 x] w fun e w' => e = .returned (.int .i64 (if s then -4611686018427387904 else 4611686018427387904)) ∧ w = w' := by
  have hD := sc_pos
  have o0 := ord_refl h
  cases s with
  | false =>
    have o1 : FloatKind.f64.format.order x 4831355200913801216 = some .gt ∨ FloatKind.f64.format.order x 4831355200913801216 = some .eq := by
      by_cases e : N = 1000000000000000 * sc
      · exact .inr (ord_eq h num_1e15 (by (try rw [sg_f]); (try rw [sg_f]); (try rw [sg_t]); (try rw [sg_t]); omega))
      · exact .inl (ord_gt h num_1e15 (by (try rw [sg_f]); (try rw [sg_f]); (try rw [sg_t]); (try rw [sg_t]); omega))
    clear h hN hD
    rcases o1 with o1 | o1
    all_goals
      go_enter Tryz.func39, Tryz.ntmps39
      go_wp2
      go_ret
      exact ⟨rfl, rfl⟩
  | true =>
    have o1 := ord_lt h num_1e15 (by (try rw [sg_f]); (try rw [sg_f]); (try rw [sg_t]); (try rw [sg_t]); omega)
    have o2 : FloatKind.f64.format.order x 14054727237768577024 = some .lt ∨ FloatKind.f64.format.order x 14054727237768577024 = some .eq := by
      by_cases e : N = 1000000000000000 * sc
      · exact .inr (ord_eq h num_m1e15 (by (try rw [sg_f]); (try rw [sg_f]); (try rw [sg_t]); (try rw [sg_t]); omega))
      · exact .inl (ord_lt h num_m1e15 (by (try rw [sg_f]); (try rw [sg_f]); (try rw [sg_t]); (try rw [sg_t]); omega))
    clear h hN hD
    rcases o2 with o2 | o2
    all_goals
      go_enter Tryz.func39, Tryz.ntmps39
      go_wp2
      go_ret
      exact ⟨rfl, rfl⟩
theorem zce_nan (x : Nat) (s : Bool) (t : Nat) (h : Ieee.double.read x = .nan s t) (w : World) : Calls Tryz.prog 40 #[.float .f64 x] w fun e w' => e = .returned (.int .i64 (-4611686018427387904)) ∧ w = w' := by
  have o1 := (ord_nan (y := x) h).1
  clear h
  go_enter Tryz.func40, Tryz.ntmps40
  go_wp2
  go_ret
  exact ⟨rfl, rfl⟩
theorem zce_inf (x : Nat) (s : Bool) (h : Ieee.double.read x = .infinity s) (w : World) : Calls Tryz.prog 40 #[.float .f64 x] w fun e w' => e = .returned (.int .i64 (if s then -4611686018427387904 else 4611686018427387904)) ∧ w = w' := by
  have o0 := ord_inf2 h
  have o1 := (ord_inf h num_1e15).1
  have o2 := (ord_inf h num_m1e15).1
  clear h
  cases s
  all_goals
    simp only [if_true, if_false, Bool.false_eq_true] at o1 o2 ⊢
    go_enter Tryz.func40, Tryz.ntmps40
    go_wp2
    go_ret
    exact ⟨rfl, rfl⟩
theorem zce_big (x : Nat) (s : Bool) (N : Nat) (h : FNum x s N) (hN : 1000000000000000 * sc ≤ N) (w : World) : Calls Tryz.prog 40 #[.float .f64 x] w fun e w' => e = .returned (.int .i64 (if s then -4611686018427387904 else 4611686018427387904)) ∧ w = w' := by
  have hD := sc_pos
  have o0 := ord_refl h
  cases s with
  | false =>
    have o1 : FloatKind.f64.format.order x 4831355200913801216 = some .gt ∨ FloatKind.f64.format.order x 4831355200913801216 = some .eq := by
      by_cases e : N = 1000000000000000 * sc
      · exact .inr (ord_eq h num_1e15 (by (try rw [sg_f]); (try rw [sg_f]); (try rw [sg_t]); (try rw [sg_t]); omega))
      · exact .inl (ord_gt h num_1e15 (by (try rw [sg_f]); (try rw [sg_f]); (try rw [sg_t]); (try rw [sg_t]); omega))
    clear h hN hD
    rcases o1 with o1 | o1
    all_goals
      go_enter Tryz.func40, Tryz.ntmps40
      go_wp2
      go_ret
      exact ⟨rfl, rfl⟩
  | true =>
    have o1 := ord_lt h num_1e15 (by (try rw [sg_f]); (try rw [sg_f]); (try rw [sg_t]); (try rw [sg_t]); omega)
    have o2 : FloatKind.f64.format.order x 14054727237768577024 = some .lt ∨ FloatKind.f64.format.order x 14054727237768577024 = some .eq := by
      by_cases e : N = 1000000000000000 * sc
      · exact .inr (ord_eq h num_m1e15 (by (try rw [sg_f]); (try rw [sg_f]); (try rw [sg_t]); (try rw [sg_t]); omega))
      · exact .inl (ord_lt h num_m1e15 (by (try rw [sg_f]); (try rw [sg_f]); (try rw [sg_t]); (try rw [sg_t]); omega))
    clear h hN hD
    rcases o2 with o2 | o2
    all_goals
      go_enter Tryz.func40, Tryz.ntmps40
      go_wp2
      go_ret
      exact ⟨rfl, rfl⟩
theorem ztr_small (x : Nat) (s : Bool) (N : Nat) (h : FNum x s N) (hN : N < 1000000000000000 * sc) (w : World) : Calls Tryz.prog 39 #[.float .f64 x] w fun e w' => e = .returned (.int .i64 (sg s (N / sc))) ∧ w = w' := by
  have hD := sc_pos
  have o0 := ord_refl h
  have hq := q_lt hN
  obtain ⟨q, eq⟩ : ∃ q, N / sc = q := ⟨_, rfl⟩
  rw [eq] at hq ⊢
  have o1 : FloatKind.f64.format.order x 4831355200913801216 = some .lt := by cases s <;> exact ord_lt h num_1e15 (by (try rw [sg_f]); (try rw [sg_f]); (try rw [sg_t]); (try rw [sg_t]); omega)
  have o2 : FloatKind.f64.format.order x 14054727237768577024 = some .gt := by cases s <;> exact ord_gt h num_m1e15 (by (try rw [sg_f]); (try rw [sg_f]); (try rw [sg_t]); (try rw [sg_t]); omega)
  have hcv := cv_int64 (fti h eq (by cases s <;> ((try rw [sg_f]); (try rw [sg_f]); (try rw [sg_t]); (try rw [sg_t]); omega)) (by cases s <;> ((try rw [sg_f]); (try rw [sg_f]); (try rw [sg_t]); (try rw [sg_t]); omega)))
  clear h hN hD eq
  go_enter Tryz.func39, Tryz.ntmps39
  go_wp2
  go_ret
  exact ⟨rfl, rfl⟩
theorem run_tof (n : Int) (w : World) : (convert 2 69 (.int .i64 n)).run Tryz.prog w = .ok (.float .f64 (Ieee.double.write (.number (decide (n < 0)) n.natAbs 0))) w := by
  have := run_convert_int_float (P := Tryz.prog) w 2 69 .i64 .f64 n (by kernel_rfl) Tryz.underlying69
  exact this
theorem zce_small (x : Nat) (s : Bool) (N : Nat) (h : FNum x s N) (hN : N < 1000000000000000 * sc) (w : World) : Calls Tryz.prog 40 #[.float .f64 x] w fun e w' => e = .returned (.int .i64 (sg s (N / sc + (!s && N % sc != 0).toNat))) ∧ w = w' := by
  have hD := sc_pos
  have o0 := ord_refl h
  have hq := q_lt hN
  have hdm := Nat.div_add_mod N sc
  have hmd := Nat.mod_lt N hD
  obtain ⟨q, eq⟩ : ∃ q, N / sc = q := ⟨_, rfl⟩
  obtain ⟨r, er⟩ : ∃ r, N % sc = r := ⟨_, rfl⟩
  rw [eq] at hq hdm ⊢
  rw [er] at hdm hmd ⊢
  obtain ⟨P, eP⟩ : ∃ P, q * sc = P := ⟨_, rfl⟩
  rw [Nat.mul_comm, eP] at hdm
  have o1 : FloatKind.f64.format.order x 4831355200913801216 = some .lt := by cases s <;> exact ord_lt h num_1e15 (by (try rw [sg_f]); (try rw [sg_f]); (try rw [sg_t]); (try rw [sg_t]); omega)
  have o2 : FloatKind.f64.format.order x 14054727237768577024 = some .gt := by cases s <;> exact ord_gt h num_m1e15 (by (try rw [sg_f]); (try rw [sg_f]); (try rw [sg_t]); (try rw [sg_t]); omega)
  have hcv := cv_int64 (fti h eq (by cases s <;> ((try rw [sg_f]); (try rw [sg_f]); (try rw [sg_t]); (try rw [sg_t]); omega)) (by cases s <;> ((try rw [sg_f]); (try rw [sg_f]); (try rw [sg_t]); (try rw [sg_t]); omega)))
  obtain ⟨y, hy⟩ : ∃ y, y = Ieee.double.write (.number (decide (sg s q < 0)) (sg s q).natAbs 0) := ⟨_, rfl⟩
  have hn : (sg s q).natAbs = q := by cases s <;> ((try rw [sg_f]); (try rw [sg_f]); (try rw [sg_t]); (try rw [sg_t]); omega)
  have htf := run_tof (sg s q)
  rw [← hy] at htf
  have hY := num_exact (decide (sg s q < 0)) q (by omega)
  rw [hn] at hy
  rw [← hy, eP] at hY
  have hP0 : q = 0 → P = 0 := fun e => by rw [← eP, e, Nat.zero_mul]
  have o3 : (s = false ∧ r ≠ 0 ∧ FloatKind.f64.format.order y x = some .lt) ∨ (¬ (s = false ∧ r ≠ 0) ∧ (FloatKind.f64.format.order y x = some .gt ∨ FloatKind.f64.format.order y x = some .eq)) := by
    cases s with
    | false =>
      have e : decide (sg false q < 0) = false := by rw [sg_f]; simp
      rw [e] at hY
      by_cases hr : r = 0
      · exact .inr ⟨fun hh => hh.2 hr, .inr (ord_eq hY h (by (try rw [sg_f]); (try rw [sg_f]); (try rw [sg_t]); (try rw [sg_t]); omega))⟩
      · exact .inl ⟨rfl, hr, ord_lt hY h (by (try rw [sg_f]); (try rw [sg_f]); (try rw [sg_t]); (try rw [sg_t]); omega)⟩
    | true =>
      refine .inr ⟨fun hh => (Bool.noConfusion hh.1), ?_⟩
      by_cases hq0 : q = 0
      · have e : decide (sg true q < 0) = false := by rw [sg_t]; simp; omega
        rw [e] at hY
        have := hP0 hq0
        by_cases hr : r = 0
        · exact .inr (ord_eq hY h (by (try rw [sg_f]); (try rw [sg_f]); (try rw [sg_t]); (try rw [sg_t]); omega))
        · exact .inl (ord_gt hY h (by (try rw [sg_f]); (try rw [sg_f]); (try rw [sg_t]); (try rw [sg_t]); omega))
      · have e : decide (sg true q < 0) = true := by rw [sg_t]; simp; omega
        rw [e] at hY
        by_cases hr : r = 0
        · exact .inr (ord_eq hY h (by (try rw [sg_f]); (try rw [sg_f]); (try rw [sg_t]); (try rw [sg_t]); omega))
        · exact .inl (ord_gt hY h (by (try rw [sg_f]); (try rw [sg_f]); (try rw [sg_t]); (try rw [sg_t]); omega))
  have hb : -1000000000000000 ≤ sg s q ∧ sg s q ≤ 1000000000000000 := by cases s <;> ((try rw [sg_f]); (try rw [sg_f]); (try rw [sg_t]); (try rw [sg_t]); omega)
  obtain ⟨t, ht⟩ : ∃ t, t = sg s q := ⟨_, rfl⟩
  have hw : IntKind.i64.wrap (t + 1) = t + 1 := IntWalk.i64_in _ (by omega)
  have hres : ∀ b : Bool, (s = false ∧ r ≠ 0 → b = true) → (¬ (s = false ∧ r ≠ 0) → b = false) → sg s (q + (!s && r != 0).toNat) = if b = true then t + 1 else t := by
    intro b h1 h2
    rw [ht]
    cases s with
    | false =>
      by_cases hr : r = 0
      · rw [h2 (fun hh => hh.2 hr)]; simp [hr, sg]
      · have e : (r != 0) = true := by simpa using hr
        rw [h1 ⟨rfl, hr⟩]; simp [e, sg]
    | true => rw [h2 (fun hh => Bool.noConfusion hh.1)]; simp [sg]
  have HR := Lib.hid hres
  rw [← ht] at hcv htf
  clear h hN hD eq er eP hY hy hn hP0 hq hdm hmd hb ht hres
  rcases o3 with ⟨e1, e2, o3⟩ | ⟨e1, o3 | o3⟩
  · have E1 := Lib.hid (And.intro e1 e2)
    clear e1 e2
    go_enter Tryz.func40, Tryz.ntmps40
    go_wp2
    go_ret
    exact ⟨ret_int (by rw [HR.out true (fun _ => rfl) (fun hh => absurd E1.out hh)]; rfl), rfl⟩
  all_goals
    have E1 := Lib.hid e1
    clear e1
    go_enter Tryz.func40, Tryz.ntmps40
    go_wp2
    go_ret
    exact ⟨ret_int (by rw [HR.out false (fun hh => absurd hh E1.out) (fun _ => rfl)]; rfl), rfl⟩
/-- Two ints that cut the same piece out of anything that is not too long. -/
def Sim (n t : Int) : Prop := n = t ∨ (1000000000000000 ≤ n ∧ 1000000000000000 ≤ t) ∨ (n ≤ -1000000000000000 ∧ t ≤ -1000000000000000)
theorem stO_sim {n t : Int} (h : Sim n t) {L : Nat} (hL : L ≤ 1048576) : stO L (some n) = stO L (some t) := by
  rcases h with rfl | ⟨h1, h2⟩ | ⟨h1, h2⟩
  · rfl
  · have e : ∀ i : Int, 1000000000000000 ≤ i → cl i 0 L = L := fun i hi => by unfold cl; repeat' split
                                                                              all_goals omega
    simp only [stO, e n h1, e t h2]
  · have e : ∀ i : Int, i ≤ -1000000000000000 → cl i 0 L = 0 := fun i hi => by unfold cl; repeat' split
                                                                               all_goals omega
    simp only [stO, e n h1, e t h2]
theorem enO_sim {n t : Int} (h : Sim n t) {L st : Nat} (hL : L ≤ 1048576) (hs : st ≤ L) : enO L st (some n) = enO L st (some t) := by
  rcases h with rfl | ⟨h1, h2⟩ | ⟨h1, h2⟩
  · rfl
  · have e : ∀ i : Int, 1000000000000000 ≤ i → cl i st L = L := fun i hi => by unfold cl; repeat' split
                                                                               all_goals omega
    simp only [enO, e n h1, e t h2]
  · have e : ∀ i : Int, i ≤ -1000000000000000 → cl i st L = st := fun i hi => by unfold cl; repeat' split
                                                                                 all_goals omega
    simp only [enO, e n h1, e t h2]
theorem toInt_flt (x : Nat) (n : Int) (h : ∀ w, Calls Tryz.prog 87 #[.float .f64 x] w fun e w' => e = .returned (.int .i64 n) ∧ w = w') (w : World) : Calls Tryz.prog 80 #[fI x] w fun e w' => e = .returned (.tuple #[.int .i64 n, .bool true]) ∧ w = w' := by
  have H := Lib.hid h
  clear h
  go_enter Tryz.func80, Tryz.ntmps80
  go_wp2_with fail
  refine (H.out w).mono ?_
  rintro e w' ⟨rfl, rfl⟩
  go_wp2
  go_ret2
  exact ⟨rfl, rfl⟩
theorem toIntCeil_flt (x : Nat) (n : Int) (h : ∀ y, CeilIs x y → ∀ w, Calls Tryz.prog 87 #[.float .f64 y] w fun e w' => e = .returned (.int .i64 n) ∧ w = w') (w : World) : Calls Tryz.prog 82 #[fI x] w fun e w' => e = .returned (.tuple #[.int .i64 n, .bool true]) ∧ Kept w w' := by
  have H := Lib.hid h
  clear h
  go_enter Tryz.func82, Tryz.ntmps82
  go_wp2_with fail
  refine (ceil_any x w).mono ?_
  rintro e w1 ⟨y, rfl, hc, hk⟩
  have K := Lib.hid hk
  have HY := Lib.hid (toInt_flt y n (H.out y hc) w1)
  clear hk hc
  go_wp2_with fail
  refine HY.out.mono ?_
  rintro e w' ⟨rfl, rfl⟩
  go_wp2
  go_ret2
  exact ⟨rfl, K.out⟩
theorem flt_ne (x : Nat) : ∃ t v, fI x = .iface t v ∧ ∀ w, (binOp .neq 20 (.iface t v) .nilIface).run Tryz.prog w = .ok (.bool true) w := ⟨_, _, rfl, fun w => by simp [go_sem]⟩
/-- A float as a start. -/
theorem flt_start (x : Nat) : ∃ n t, Sim n t ∧ Ix 80 (fI x) (some n) ∧ -4611686018427387904 ≤ t ∧ t ≤ 4611686018427387904 ∧ ∀ w, Calls Tryz.prog 39 #[.float .f64 x] w fun e w' => e = .returned (.int .i64 t) ∧ w = w' := by
  have mk : ∀ n, -9223372036854775808 ≤ n → n ≤ 9223372036854775807 → (∀ w, Calls Tryz.prog 87 #[.float .f64 x] w fun e w' => e = .returned (.int .i64 n) ∧ w = w') → Ix 80 (fI x) (some n) :=
    fun n h0 h1 h => ⟨flt_ne x, h0, h1, fun w => (toInt_flt x n h w).mono fun e w' ⟨a, b⟩ => ⟨a, b ▸ Below.refl _ _⟩⟩
  rcases read_cases x with ⟨s, t, h, _, _⟩ | ⟨s, h⟩ | ⟨s, N, h⟩
  · exact ⟨_, _, .inr (.inr ⟨by omega, by omega⟩), mk _ (by omega) (by omega) (ftoi_nan x s t h), by omega, by omega, ztr_nan x s t h⟩
  · refine ⟨_, _, ?_, mk _ ?_ ?_ (ftoi_inf x s h), ?_, ?_, ztr_inf x s h⟩
    · cases s
      · exact .inr (.inl (by simp))
      · exact .inr (.inr (by simp))
    all_goals (cases s <;> simp)
  · have hD := sc_pos
    by_cases hN : 1000000000000000 * sc ≤ N
    · have hq := q_ge hN
      refine ⟨_, _, ?_, mk _ ?_ ?_ (ftoi_num x s N h), ?_, ?_, ztr_big x s N h hN⟩
      · cases s
        · refine .inr (.inl ?_)
          unfold ftn
          simp only [Bool.false_eq_true, if_false]
          split <;> omega
        · refine .inr (.inr ?_)
          unfold ftn
          simp only [if_true]
          split <;> omega
      · unfold ftn
        cases s
        · simp only [Bool.false_eq_true, if_false]
          split <;> omega
        · simp only [if_true]
          split
          · have := q_le (by assumption : N ≤ 9223372036854775808 * sc); omega
          · omega
      · unfold ftn
        cases s
        · simp only [Bool.false_eq_true, if_false]
          split
          · have := q_lt (by assumption : N < 9223372036854775808 * sc); omega
          · omega
        · simp only [if_true]
          split <;> omega
      all_goals (cases s <;> simp)
    · have hq := q_lt (show N < 1000000000000000 * sc by omega)
      have e : ftn s N = sg s (N / sc) := by
        unfold ftn sg
        cases s
        · simp only [Bool.false_eq_true, if_false]
          rw [if_pos (by omega)]
        · simp only [if_true]
          rw [if_pos (by omega)]
      have hf := ftoi_num x s N h
      rw [e] at hf
      have hz := ztr_small x s N h (by omega)
      generalize N / sc = q at *
      refine ⟨_, _, .inl rfl, mk _ ?_ ?_ hf, ?_, ?_, hz⟩
      all_goals (cases s <;> (first | (rw [sg_f]; omega) | (rw [sg_t]; omega)))
theorem ftn_exact (s : Bool) (Q : Nat) (hQ : Q ≤ 9223372036854775807) : ftn s (Q * sc) = sg s Q := by
  have hD := sc_pos
  have e : Q * sc / sc = Q := Nat.mul_div_cancel _ hD
  have h1 : Q * sc ≤ 9223372036854775807 * sc := Nat.mul_le_mul_right _ hQ
  unfold ftn sg
  rw [e]
  cases s
  · simp only [Bool.false_eq_true, if_false]
    rw [if_pos (by omega)]
  · simp only [if_true]
    rw [if_pos (by omega)]
/-- A float as an end. -/
theorem flt_end (x : Nat) : ∃ n t, Sim n t ∧ Ix 82 (fI x) (some n) ∧ -4611686018427387904 ≤ t ∧ t ≤ 4611686018427387904 ∧ ∀ w, Calls Tryz.prog 40 #[.float .f64 x] w fun e w' => e = .returned (.int .i64 t) ∧ w = w' := by
  have mk : ∀ n, -9223372036854775808 ≤ n → n ≤ 9223372036854775807 → (∀ y, CeilIs x y → ∀ w, Calls Tryz.prog 87 #[.float .f64 y] w fun e w' => e = .returned (.int .i64 n) ∧ w = w') → Ix 82 (fI x) (some n) :=
    fun n h0 h1 h => ⟨flt_ne x, h0, h1, fun w => toIntCeil_flt x n h w⟩
  have uq : ∀ {s s' : Bool} {N N' : Nat}, FNum x s N → FNum x s' N' → s = s' ∧ N = N' := by
    rintro s s' N N' ⟨m, i, e1, _, rfl⟩ ⟨m', i', e2, _, rfl⟩
    rw [e1] at e2
    injection e2 with a b c
    subst a b c
    exact ⟨rfl, rfl⟩
  rcases read_cases x with ⟨s, t, h, _, _⟩ | ⟨s, h⟩ | ⟨s, N, h⟩
  · refine ⟨_, _, .inr (.inr ⟨by omega, by omega⟩), mk (-9223372036854775808) (by omega) (by omega) ?_, by omega, by omega, zce_nan x s t h⟩
    rintro y (⟨s1, t1, s2, t2, _, h2⟩ | ⟨s1, h1, _⟩ | ⟨s1, N1, ⟨m, i, e1, _, _⟩, _⟩)
    · exact ftoi_nan y s2 t2 h2
    · rw [h] at h1; cases h1
    · rw [h] at e1; cases e1
  · refine ⟨_, _, ?_, mk (if s then -9223372036854775808 else 9223372036854775807) ?_ ?_ ?_, ?_, ?_, zce_inf x s h⟩
    · cases s
      · exact .inr (.inl (by simp))
      · exact .inr (.inr (by simp))
    · cases s <;> simp
    · cases s <;> simp
    · rintro y (⟨s1, t1, s2, t2, h1, h2⟩ | ⟨s1, h1, h2⟩ | ⟨s1, N1, ⟨m, i, e1, _, _⟩, _⟩)
      · rw [h] at h1; cases h1
      · rw [h] at h1; injection h1 with h1; subst h1; exact ftoi_inf y s h2
      · rw [h] at e1; cases e1
    all_goals (cases s <;> simp)
  · have hD := sc_pos
    have hx := h
    obtain ⟨m, i, e0, _, _⟩ := hx
    obtain ⟨Q, hQ⟩ : ∃ Q, Q = N / sc + (!s && N % sc != 0).toNat := ⟨_, rfl⟩
    obtain ⟨y0, hy0⟩ : ∃ y, y = Ieee.double.write (.number s Q 0) := ⟨_, rfl⟩
    have only : ∀ y, CeilIs x y → y = y0 := by
      rintro y (⟨s1, t1, s2, t2, h1, h2⟩ | ⟨s1, h1, h2⟩ | ⟨s1, N1, e1, e2⟩)
      · rw [e0] at h1; cases h1
      · rw [e0] at h1; cases h1
      · obtain ⟨rfl, rfl⟩ := uq h e1
        rw [hy0, hQ]; exact e2
    have hb : (!s && N % sc != 0).toNat ≤ 1 := by cases (!s && N % sc != 0) <;> decide
    by_cases hN : 1000000000000000 * sc ≤ N
    · have hq := q_ge hN
      by_cases hs : Q < 2 ^ 53
      · have hY := num_exact s Q hs
        rw [← hy0] at hY
        have hf := ftoi_num y0 s _ hY
        rw [ftn_exact s Q (by omega)] at hf
        refine ⟨_, _, ?_, mk (sg s Q) ?_ ?_ (fun y hy => by rw [only y hy]; exact hf), ?_, ?_, zce_big x s N h hN⟩
        · cases s
          · exact .inr (.inl ⟨by rw [sg_f]; omega, by simp⟩)
          · exact .inr (.inr ⟨by rw [sg_t]; omega, by simp⟩)
        · cases s
          · rw [sg_f]; omega
          · rw [sg_t]; omega
        · cases s
          · rw [sg_f]; omega
          · rw [sg_t]; omega
        all_goals (cases s <;> simp)
      · rcases num_big s Q (by omega) with hY | ⟨M, hY, hM⟩
        · rw [← hy0] at hY
          refine ⟨_, _, ?_, mk (if s then -9223372036854775808 else 9223372036854775807) ?_ ?_ (fun y hy => by rw [only y hy]; exact ftoi_inf y0 s hY), ?_, ?_, zce_big x s N h hN⟩
          · cases s
            · exact .inr (.inl (by simp))
            · exact .inr (.inr (by simp))
          all_goals (cases s <;> simp)
        · rw [← hy0] at hY
          have hq2 := q_ge hM
          refine ⟨_, _, ?_, mk (ftn s M) ?_ ?_ (fun y hy => by rw [only y hy]; exact ftoi_num y0 s M hY), ?_, ?_, zce_big x s N h hN⟩
          · cases s
            · refine .inr (.inl ?_)
              unfold ftn
              simp only [Bool.false_eq_true, if_false]
              split <;> omega
            · refine .inr (.inr ?_)
              unfold ftn
              simp only [if_true]
              split <;> omega
          · unfold ftn
            cases s
            · simp only [Bool.false_eq_true, if_false]
              split <;> omega
            · simp only [if_true]
              split
              · have := q_le (by assumption : M ≤ 9223372036854775808 * sc); omega
              · omega
          · unfold ftn
            cases s
            · simp only [Bool.false_eq_true, if_false]
              split
              · have := q_lt (by assumption : M < 9223372036854775808 * sc); omega
              · omega
            · simp only [if_true]
              split <;> omega
          all_goals (cases s <;> simp)
    · have hq := q_lt (show N < 1000000000000000 * sc by omega)
      have hz := zce_small x s N h (by omega)
      rw [← hQ] at hz
      have hY := num_exact s Q (by omega)
      rw [← hy0] at hY
      have hf := ftoi_num y0 s _ hY
      rw [ftn_exact s Q (by omega)] at hf
      have hQ2 : Q ≤ 1000000000000000 := by omega
      clear hQ hb hq
      refine ⟨_, _, .inl rfl, mk (sg s Q) ?_ ?_ (fun y hy => by rw [only y hy]; exact hf), ?_, ?_, hz⟩
      all_goals (cases s <;> (first | (rw [sg_f]; omega) | (rw [sg_t]; omega)))
end Go.Proofs.YticjhbklcpoonaaGreatDoor
