/- The law's own pieces: ints picked, bytes of runes picked; a string against bytes. -/
import Derived.Test.YticjhbklcpoonaaGreatDoorRst
namespace Go.Proofs.YticjhbklcpoonaaGreatDoor
open Go.RowKit Go.Gq
set_option maxRecDepth 100000
theorem rd_at {w : World} {b n : Nat} {f : Nat → Value} (h : Rd w (some ⟨b, 0, none⟩) n f) {k : Nat} (hk : k < n) : w.cell? ⟨b, k, none⟩ = some (f k) := by
  obtain ⟨b', off, e, hc⟩ := h.at hk
  injection e with e
  injection e with e1 e2
  subst e1 e2
  rw [Nat.zero_add] at hc
  exact hc
/-- What the law is told of a bound. -/
structure Bd (S : Option Int) (b : Bool) (v : Int) : Prop where
  is : b = S.isSome
  val : v = S.getD 0
  bd : ∀ s, S = some s → -9223372036854775808 ≤ s ∧ s ≤ 9223372036854775807
def picked (B : Nat) (W wr : World) (g cap m : Nat) (E : TypeId) (f : Nat → Value) : Prop := Below B W wr ∧ wr.ownsRow B E 1 (.slice (some ⟨g, 0, none⟩) m cap) m ((List.range m).map f)
set_option maxHeartbeats 4000000 in
theorem pickInts_any (a : Option Addr) (L c : Nat) (z : Nat → Int) (S E : Option Int) (sS eS : Bool) (sv ev : Int) (hS : Bd S sS sv) (hE : Bd E eS ev) (w : World) (hL : L ≤ 1048576) (h : Rd w a L (fun i => .int .i64 (z i))) :
    Calls Tryz.prog 41 #[.slice a L c, .bool sS, .int .i64 sv, .bool eS, .int .i64 ev] w fun e w' => ∃ a' c', e = .returned (.slice a' (enO L (stO L S) E - stO L S) c') ∧ Rd w' a' (enO L (stO L S) E - stO L S) (fun t => .int .i64 (z (stO L S + t))) ∧ Kept w w' := by
  have H0 := Lib.hid h
  have hst := stO_le L S
  have hen := enO_bd L (stO L S) E hst
  have HC := Lib.hid (fun (i : Nat) (hi : i < L) (w : World) => inRange_any i L S E hi hL hS.bd hE.bd sS eS sv ev hS.is hS.val hE.is hE.val w)
  have hB := inB_iff L
  have HBI := Lib.hid (fun i => hB i S E)
  obtain ⟨st, est⟩ : ∃ st, st = stO L S := ⟨_, rfl⟩
  rw [← est] at hst hen HBI ⊢
  obtain ⟨en, een⟩ : ∃ en, en = enO L st E := ⟨_, rfl⟩
  rw [← een] at hen HBI ⊢
  clear h hS hE hB est een
  go_enter Tryz.func41, Tryz.ntmps41
  go_wp2
  obtain ⟨W, HW⟩ : ∃ W : World, W = w.alloc (.cells #[] 3) := ⟨_, rfl⟩
  have HI : Hid (picked w.heap.size w W w.heap.size 0 0 3 (fun t => .int .i64 (z (st + t)))) := by
    rw [HW]
    exact ⟨kept_alloc _ _, own_empty w _⟩
  rw [← HW]
  clear HW
  go_loopw [12, 13] (fun x i wr => ∃ (k m g cap : Nat), k ≤ L ∧ i = .int .i64 k ∧ x = .slice (some ⟨g, 0, none⟩) m cap ∧ m ≤ 1048576 ∧ Hid (m = max st (min k en) - st ∧ picked w.heap.size w wr g cap m 3 (fun t => .int .i64 (z (st + t))))) (fun _ i _ => L - (intOf i).toNat)
  case atStart => exact ⟨0, 0, w.heap.size, 0, Nat.zero_le _, rfl, rfl, by omega, by omega, HI.out⟩
  case round =>
  obtain ⟨k, m, g, cap, hk, rfl, rfl, hm1, HR⟩ := hrel
  obtain ⟨hm, hb, ho⟩ := HR.out
  by_cases hlt : k < L
  · have hcall := fun w => HC.out k hlt w
    by_cases hin : st ≤ k ∧ k < en
    · obtain ⟨xb, xo, e1, hc0⟩ := (H0.out.kept hb).at hlt
      subst e1
      obtain ⟨x, hx⟩ : ∃ x, x = z k := ⟨_, rfl⟩
      rw [← hx] at hc0
      have HX := Lib.hid hx
      have hbt : inB L k S E = true := (HBI.out k).2 hin
      rw [hbt] at hcall
      have Hcall := Lib.hid hcall
      have HIN := Lib.hid (And.intro hin hm)
      have q4 : (0 : Int) ≤ (k : Int) := by omega
      have q5 : (k : Int) < (L : Int) := by omega
      have hc := cell_fresh wr #[Value.int .i64 x] 3 0 (Value.int .i64 x) rfl
      have hb3 := below_al hb (Nat.le_refl _) (.cells #[Value.int .i64 x] 3)
      have hB2 : w.heap.size ≤ (wr.alloc (.cells #[Value.int .i64 x] 3)).heap.size := hb3.size
      have hown2 := own_alloc ho (.cells #[Value.int .i64 x] 3)
      have HW := Lib.hid hb3
      clear hx HR HI hb hb3 ho hcall hbt hin hm
      go_wp2_with (first
        | (go_at_call 57; refine (Hcall.out _).mono ?_; rintro e' w3 ⟨rfl, rfl⟩)
        | (at_builtin; refine wpl_app1 rfl _ _ 64 3 rfl Tryz.underlying64 tixInt rfl (by omega) w.heap.size _ (.slice (some ⟨g, 0, none⟩) m cap) m _ rfl hown2 wr.heap.size (Value.int .i64 x) rfl hc rfl (by omega) hB2 ?_; intro g2 cap2 w2 ho2 hb2))
      have HZ := Lib.hid (And.intro ho2 hb2)
      clear ho2 hb2 hown2 hc hB2
      go_roundw
      case rel =>
        obtain ⟨h1, h2⟩ := HIN.out
        refine ⟨k + 1, m + 1, g2, cap2, by omega, by go_num, rfl, by omega, by omega, HW.out.trans HZ.out.2, ?_⟩
        rw [List.range_succ, List.map_append, List.map_singleton, show st + m = k by omega, ← HX.out]
        exact HZ.out.1
      case measure => simp [intOf]; omega
    · have hbt : inB L k S E = false := by
        cases hh : inB L k S E with
        | false => rfl
        | true => exact absurd ((HBI.out k).1 hh) hin
      rw [hbt] at hcall
      have Hcall := Lib.hid hcall
      have HIN := Lib.hid (And.intro hin hm)
      have HB := Lib.hid (And.intro hb ho)
      have q5 : (k : Int) < (L : Int) := by omega
      clear HR HI hb ho hcall hbt hin hm
      go_wp2_with (first
        | (go_at_call 57; refine (Hcall.out _).mono ?_; rintro e' w3 ⟨rfl, rfl⟩))
      go_roundw
      case rel =>
        obtain ⟨h1, h2⟩ := HIN.out
        exact ⟨k + 1, m, g, cap, by omega, by go_num, rfl, by omega, by omega, HB.out⟩
      case measure => simp [intOf]; omega
  obtain rfl : k = L := by omega
  have HB := Lib.hid (And.intro hb ho)
  have HM := Lib.hid (show m = en - st by omega)
  clear hb ho HR HI hlt hk hm
  go_wp2
  go_ret
  obtain rfl := HM.out
  exact ⟨_, _, rfl, (own_rd HB.out.2 rfl _ fun i hi => by simp [hi]).2, HB.out.1⟩
set_option maxHeartbeats 1000000 in
theorem eqStr_any (s : ByteArray) (a : Option Addr) (n c : Nat) (w : World) (hn : n ≤ 1048576) (hs : s.size = n) (ha : Rd w a n (fun i => .int .u8 (bt s i : Int))) :
    Calls Tryz.prog 42 #[.string s, .slice a n c] w (TrueKept w) := by
  have HA := Lib.hid ha
  subst hs
  clear ha
  go_enter Tryz.func42, Tryz.ntmps42
  go_wp2
  go_loopw [5] (fun t wr => ∃ k r : Nat, k ≤ s.size ∧ t = .int .i64 k ∧ wr = w.drewN r) (fun t _ => s.size - (intOf t).toNat)
  case atStart => exact ⟨0, 0, Nat.zero_le _, rfl, rfl⟩
  case round =>
    obtain ⟨k, r, hk, rfl, rfl⟩ := hrel
    by_cases hlt : k < s.size
    · obtain ⟨b1, o1, e1, c1⟩ := HA.out.at hlt
      subst e1
      have q7 : (0 : Int) ≤ (k : Int) := by omega
      have q8 : (k : Int) < (s.size : Int) := by omega
      have fi := run_idx s (k : Int) k rfl hlt
      obtain ⟨x, hx⟩ : ∃ x : Int, x = (bt s k : Int) := ⟨_, rfl⟩
      rw [← hx] at fi c1
      have q9 : (x != x) = false := by simp
      clear hx
      go_wp2_with fail
      go_quiet (fail)
      go_wp2
      go_roundw
      case rel => exact ⟨k + 1, _, by omega, by go_num, rfl⟩
      case measure => simp [intOf]; omega
    · have q6 : (s.size : Int) ≤ (k : Int) := by omega
      go_wp2
      go_ret
      exact ⟨rfl, kept_drewN _ _⟩
set_option maxHeartbeats 8000000 in
theorem pickRunes_any (v : ByteArray) (S E : Option Int) (sS eS : Bool) (sv ev : Int) (hS : Bd S sS sv) (hE : Bd E eS ev) (w : World) (hv : v.size ≤ 1048576) :
    Calls Tryz.prog 43 #[.string v, .bool sS, .int .i64 sv, .bool eS, .int .i64 ev] w fun e w' => ∃ a' c', e = .returned (.slice a' (rpos v (enO (rcnt v) (stO (rcnt v) S) E) - rpos v (stO (rcnt v) S)) c') ∧ Rd w' a' (rpos v (enO (rcnt v) (stO (rcnt v) S) E) - rpos v (stO (rcnt v) S)) (fun t => .int .u8 (bt v (rpos v (stO (rcnt v) S) + t) : Int)) ∧ Kept w w' := by
  have L0 := rcnt_le v
  obtain ⟨L, hL⟩ : ∃ L, L = rcnt v := ⟨_, rfl⟩
  have HS := runeStarts_any v w hv
  rw [← hL] at L0 HS ⊢
  have HL := Lib.hid hL
  have L1 : L ≤ 1048576 := by omega
  have hst := stO_le L S
  have hen := enO_bd L (stO L S) E hst
  have HC := Lib.hid (fun (i : Nat) (hi : i < L) (w : World) => inRange_any i L S E hi L1 hS.bd hE.bd sS eS sv ev hS.is hS.val hE.is hE.val w)
  have hB := inB_iff L
  have HBI := Lib.hid (fun i => hB i S E)
  obtain ⟨st, est⟩ : ∃ st, st = stO L S := ⟨_, rfl⟩
  rw [← est] at hst hen HBI ⊢
  obtain ⟨en, een⟩ : ∃ en, en = enO L st E := ⟨_, rfl⟩
  rw [← een] at hen HBI ⊢
  obtain ⟨P, hP⟩ : ∃ P, P = rpos v st := ⟨_, rfl⟩
  rw [← hP]
  have HPP := Lib.hid hP
  have HRun := Lib.hid HS
  clear hL hS hE hB est een HS hP
  go_enter Tryz.func43, Tryz.ntmps43
  go_wp2_with fail
  refine HRun.out.mono ?_
  rintro e W0 ⟨g0, cap0, rfl, hr0, hk0⟩
  have R0 := Lib.hid hr0
  have K0 := Lib.hid hk0
  clear hr0 hk0 HRun
  go_wp2
  obtain ⟨W, HW⟩ : ∃ W : World, W = W0.alloc (.cells #[] 5) := ⟨_, rfl⟩
  have HI : Hid (picked W0.heap.size W0 W W0.heap.size 0 0 5 (fun t => .int .u8 (bt v (P + t) : Int))) := by
    rw [HW]
    exact ⟨kept_alloc _ _, own_empty W0 _⟩
  rw [← HW]
  clear HW
  go_loopw [13, 14, 15] (fun x i _ wr => ∃ (k m g cap : Nat), k ≤ L ∧ i = .int .i64 k ∧ x = .slice (some ⟨g, 0, none⟩) m cap ∧ m ≤ 1048576 ∧ Hid (P + m = rpos v (max st (min k en)) ∧ picked W0.heap.size W0 wr g cap m 5 (fun t => .int .u8 (bt v (P + t) : Int)))) (fun _ i _ _ => L - (intOf i).toNat)
  case atStart => exact ⟨0, 0, W0.heap.size, 0, Nat.zero_le _, rfl, rfl, by omega, by rw [HPP.out, show max st (min 0 en) = st by omega]; rfl, HI.out⟩
  case round =>
  obtain ⟨k, m, g, cap, hk, rfl, rfl, hm1, HR⟩ := hrel
  obtain ⟨hm, hb, ho⟩ := HR.out
  by_cases hlt : k < L
  · have hcall := fun w => HC.out k hlt w
    have q5 : (k : Int) < (L : Int) := by omega
    by_cases hin : st ≤ k ∧ k < en
    · have hbt : inB L k S E = true := (HBI.out k).2 hin
      rw [hbt] at hcall
      have Hcall := Lib.hid hcall
      have hp : rpos v k < v.size := (rpos_iff v k).2 (by have := HL.out; omega)
      have hlt2 := rpos_lt v k hp
      have hle2 := rpos_le v (k + 1)
      rw [show max st (min k en) = k by omega] at hm
      have t1 := rd_at (R0.out.kept hb) (show k < L + 1 by omega)
      obtain ⟨j0, hj0⟩ : ∃ j, j = rpos v k := ⟨_, rfl⟩
      obtain ⟨j1, hj1⟩ : ∃ j, j = rpos v (k + 1) := ⟨_, rfl⟩
      rw [← hj0] at hp hlt2 hm t1
      rw [← hj1] at hlt2 hle2
      have q4 : (0 : Int) ≤ (k : Int) := by omega
      have q6 : (k : Int) < (L : Int) + 1 := by omega
      have HIN := Lib.hid (And.intro hin (And.intro hj0 hj1))
      have HB := Lib.hid (And.intro hb ho)
      have HM := Lib.hid hm
      have l1 : j0 ≤ j1 := by omega
      have l2 : j1 ≤ 1048576 := by omega
      have HLE := Lib.hid hle2
      have mle : m ≤ j0 := by omega
      clear HR HI hb ho hcall hbt hin hm hp hlt2 hle2 hj0 hj1
      go_wp2_with (first
        | (go_at_call 57; refine (Hcall.out _).mono ?_; rintro e' w3 ⟨rfl, rfl⟩))
      rename World => Y
      go_loopw [13, 15] (fun x j wr => ∃ (q m2 g cap : Nat), q ≤ j1 ∧ j = .int .i64 (q : Int) ∧ x = .slice (some ⟨g, 0, none⟩) m2 cap ∧ m2 ≤ q ∧ Hid (P + m2 = q ∧ picked W0.heap.size W0 wr g cap m2 5 (fun t => .int .u8 (bt v (P + t) : Int)))) (fun _ j _ => j1 - (intOf j).toNat)
      case atStart => exact ⟨j0, m, g, cap, l1, rfl, rfl, mle, HM.out, HB.out⟩
      case round =>
      obtain ⟨q, m2, g2, cap2, hq, rfl, rfl, hm2, HR⟩ := hrel
      obtain ⟨hm, hb, ho⟩ := HR.out
      have t3 := rd_at (R0.out.kept hb) (show k + 1 < L + 1 by omega)
      rw [← HIN.out.2.2] at t3
      have q7 : (0 : Int) ≤ (k : Int) + 1 := by omega
      have q8 : (k : Int) + 1 < (L : Int) + 1 := by omega
      by_cases hqj : q < j1
      · have hidx := run_idx v (q : Int) q rfl (by have := HLE.out; omega)
        obtain ⟨x, hx⟩ : ∃ x : Int, x = (bt v q : Int) := ⟨_, rfl⟩
        rw [← hx] at hidx
        have HX := Lib.hid hx
        have HMQ := Lib.hid hm
        have q9 : (q : Int) < (j1 : Int) := by omega
        have hc := cell_fresh wr #[Value.int .u8 x] 5 0 (Value.int .u8 x) rfl
        have hb3 := below_al hb (Nat.le_refl _) (.cells #[Value.int .u8 x] 5)
        have hB2 : W0.heap.size ≤ (wr.alloc (.cells #[Value.int .u8 x] 5)).heap.size := hb3.size
        have hown2 := own_alloc ho (.cells #[Value.int .u8 x] 5)
        have HW := Lib.hid hb3
        clear hx HR hb hb3 ho hm
        go_wp2_with (first
          | (at_builtin; refine wpl_app1 rfl _ _ 100 5 rfl Tryz.underlying100 tixU8 rfl (by omega) W0.heap.size _ (.slice (some ⟨g2, 0, none⟩) m2 cap2) m2 _ rfl hown2 wr.heap.size (Value.int .u8 x) rfl hc rfl (by omega) hB2 ?_; intro g3 cap3 w3 ho3 hb3))
        have HZ := Lib.hid (And.intro ho3 hb3)
        clear ho3 hb3 hown2 hc hB2
        go_roundw
        case rel =>
          refine ⟨q + 1, m2 + 1, g3, cap3, by omega, by go_num, rfl, by omega, by have := HMQ.out; omega, HW.out.trans HZ.out.2, ?_⟩
          rw [List.range_succ, List.map_append, List.map_singleton, show P + m2 = q from HMQ.out, ← HX.out]
          exact HZ.out.1
        case measure => simp [intOf]; omega
      · obtain rfl : q = j1 := by omega
        have HB2 := Lib.hid (And.intro hb ho)
        have HMQ := Lib.hid hm
        have q9 : ¬ (q : Int) < (q : Int) := Int.lt_irrefl _
        clear hb ho hm HR
        go_wp2_with fail
        go_roundw
        case rel =>
          obtain ⟨h1, h2, h3⟩ := HIN.out
          exact ⟨k + 1, m2, g2, cap2, by omega, by go_num, rfl, by omega, by rw [HMQ.out, h3]; congr 1; omega, HB2.out⟩
        case measure => simp [intOf]; omega
    · have hbt : inB L k S E = false := by
        cases hh : inB L k S E with
        | false => rfl
        | true => exact absurd ((HBI.out k).1 hh) hin
      rw [hbt] at hcall
      have Hcall := Lib.hid hcall
      have HIN := Lib.hid (And.intro hin hm)
      have HB := Lib.hid (And.intro hb ho)
      clear HR HI hb ho hcall hbt hin hm
      go_wp2_with (first
        | (go_at_call 57; refine (Hcall.out _).mono ?_; rintro e' w3 ⟨rfl, rfl⟩))
      go_roundw
      case rel =>
        obtain ⟨h1, h2⟩ := HIN.out
        exact ⟨k + 1, m, g, cap, by omega, by go_num, rfl, by omega, by rw [h2]; congr 1; omega, HB.out⟩
      case measure => simp [intOf]; omega
  obtain rfl : k = L := by omega
  have HB := Lib.hid (And.intro hb ho)
  have HM := Lib.hid (show m = rpos v en - P by rw [show en = max st (min k en) by omega]; omega)
  clear hb ho HR HI hlt hk hm
  go_wp2
  go_ret
  obtain rfl := HM.out
  exact ⟨_, _, rfl, (own_rd HB.out.2 rfl _ fun i hi => by simp [hi]).2, K0.out.trans HB.out.1⟩
end Go.Proofs.YticjhbklcpoonaaGreatDoor
