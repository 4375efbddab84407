/- The walk of FnUpdateRefusalsAndBuildsFromNull. -/
import Derived.Test.YtlchcilkdenjeaaGreatDoorUpdn
import Derived.Test.YtlchcilkdenjeaaGreatDoorLawf
namespace Go.Proofs.YtlchcilkdenjeaaGreatDoor
open Go.RowKit Go.Gq
set_option maxRecDepth 100000
theorem zzBytes_FnUpdateRefusalsAndBuildsFromNull_any (k : ByteArray) (i n : Int) (w : World) (h1 : k.size ≤ 9223372036854775807) :
    Calls Tryz.prog 23 #[.string k, .int .i64 i, .int .i64 n] w (SomeBool w) := by
  by_cases g1 : k.size ≤ 1048576
  rotate_left
  · go_enter Tryz.func23, Tryz.ntmps23
    go_wp2
    go_ret
    exact ⟨false, rfl, rfl⟩
  go_enter Tryz.func23, Tryz.ntmps23
  go_wp2
  go_ret
  exact ⟨true, rfl, rfl⟩
/-- The object that null gives at a key. -/
def ObjAns (k : ByteArray) (n : Int) (W : World) (u er : Value) (w' : World) : Prop :=
  er = .nilIface ∧ ∃ b, u = .iface 41 (.map (some b)) ∧ (∀ ty, (Builtin.len_ #[41] ty #[.map (some b)]).run Tryz.prog w' = .ok (.int .i64 1) w') ∧ (Instr.lookup 41 (.map (some b)) (.string k) false).run Tryz.prog w' = .ok (ib n) w' ∧ Kept W w'
theorem updateObject_null (k : ByteArray) (n : Int) (pa : Option Addr) (pc : Nat) (W : World) :
    Calls Tryz.prog 37 #[.map none, .string k, .slice pa 0 pc, ib n, .map none] W (Two (ObjAns k n W)) := by
  refine (updateObject_any none [] k pa pc _ _ none W (.inl ⟨rfl, rfl⟩) (.inl ⟨rfl, rfl⟩) (fun b e => by cases e) (by simp) (ib_not_marker n)).mono ?_
  rintro e w' ⟨b, D, rfl, _, hm, hl, hk, _⟩
  have hnd := mapIs_nd strKey hm
  have h1 : D.length = 1 := same_length (l' := [(k, ib n)]) hnd (by simp [ND]) fun x => by
    rw [hl x]; simp only [lkp]
  refine ⟨_, _, rfl, rfl, b, rfl, fun ty => ?_, ?_, hk.below (Nat.le_refl _) (fun i e => by cases e)⟩
  · have := run_len_assoc strKey (P := Tryz.prog) Tryz.underlying41 w' hm ty
    rw [h1] at this
    exact this
  · have := run_lookup_assoc strKey (P := Tryz.prog) Tryz.underlying41 Tryz.underlying9 w' hm k _ (zeroAny w') false
    rw [hl k, if_pos rfl] at this
    exact this
/-- The array that null gives at an index. -/
def PadAns (n : Int) (I : Nat) (W : World) (u er : Value) (w' : World) : Prop :=
  er = .nilIface ∧ ∃ b M, u = .iface 25 (.slice (some ⟨b, 0, none⟩) (I + 1) M) ∧ I + 1 ≤ M ∧ w'.rowIs b 20 M (fun t => if t = I then ib n else .nilIface) ∧ Kept W w'
theorem updateArrayIndex_null (i n : Int) (I : Nat) (hI : i = I) (hi : I ≤ 65536) (pa : Option Addr) (pc : Nat) (W : World) :
    Calls Tryz.prog 39 #[.slice none 0 0, .int .i64 i, .slice pa 0 pc, ib n, .map none] W (Two (PadAns n I W)) := by
  have hpad := updateArrayIndex_pad none 0 0 (fun _ => .nilIface) i pa pc 3 (.int .i64 n) none W (.inl rfl) (fun t ht => by omega) (by omega) (by omega) (by omega) (Nat.le_refl _) (.inl ⟨rfl, rfl⟩) (ib_not_marker n)
  rw [show i.toNat = I by omega] at hpad
  exact hpad.mono fun e w' ⟨b, h1, h2, h3, h4, _⟩ => ⟨_, _, h1, rfl, b, _, rfl, Nat.le_max_left _ _, h3.congr fun t ht => by simp only [Nat.not_lt_zero, if_false], h4.below (Nat.le_refl _) (fun i e => by cases e)⟩
set_option maxHeartbeats 8000000 in
theorem FnUpdateRefusalsAndBuildsFromNull_walk (k : ByteArray) (i n : Int) (w : World) (m0 : k.size ≤ 9223372036854775807) (hi0 : -9223372036854775808 ≤ i) (hi1 : i ≤ 9223372036854775807) :
    Calls Tryz.prog 6 #[.string k, .int .i64 i, .int .i64 n] w (TrueKept w) := by
  have hmo : ∀ W : World, (Instr.makeMap 41 none).run Tryz.prog W = .ok (.map (some W.heap.size)) (W.alloc (.map #[] 0)) := fun W => by
    simp [Instr.makeMap]
  have qn : (n != n) = false := by simp
  go_enter Tryz.func6, Tryz.ntmps6
  go_wp2_with fail
  refine (zzBytes_FnUpdateRefusalsAndBuildsFromNull_any k i n w m0).mono ?_
  rintro e w1 ⟨b, rfl, rfl⟩
  cases b with
  | false =>
    go_wp2
    go_ret
    exact ⟨rfl, Below.refl _ _⟩
  | true =>
  by_cases g1 : 1048576 < k.size
  · go_wp2
    go_ret
    exact ⟨rfl, Below.refl _ _⟩
  have T0 : Hid (Kept w w) := Below.refl _ _
  go_wp2_with fail
  refine (ZZupdate_run _ _ _ _ _ _ _ (update_key_int w.heap.size _ _ _ k _ (cell1 _ _ _ _ (by simp)))).mono ?_
  rintro e v1 ⟨u, er, rfl, rfl, hk, x, rfl⟩
  have T1 : Hid (Kept w v1) := (T0.out.trans (kept_alloc w (.cells #[.iface 9 (.string k)] 20))).trans hk
  clear hk
  go_wp2_with fail
  refine (ZZupdate_run _ _ _ _ _ _ _ (update_idx_int v1.heap.size _ _ _ i _ (cell1 _ _ _ _ (by simp)))).mono ?_
  rintro e v2 ⟨u, er, rfl, rfl, hk, x, rfl⟩
  have T2 : Hid (Kept w v2) := (T1.out.trans (kept_alloc v1 (.cells #[ib i] 20))).trans hk
  clear hk
  go_wp2_with fail
  refine (ZZupdate_run _ _ _ _ _ _ _ (update_key_arr (v2.heap.size + 1) _ _ _ k _ (cell1 _ _ _ _ (by simp)))).mono ?_
  rintro e v3 ⟨u, er, rfl, rfl, hk, x, rfl⟩
  have T3 : Hid (Kept w v3) := (T2.out.trans ((kept_alloc v2 (.cells #[] 20)).trans (kept_alloc _ (.cells #[.iface 9 (.string k)] 20)))).trans hk
  clear hk
  go_wp2_with fail
  refine (ZZupdate_run _ _ _ _ _ _ _ (update_idx_obj (v3.heap.size + 1) _ _ _ i _ (cell1 _ _ _ _ (by simp)))).mono ?_
  rintro e v4 ⟨u, er, rfl, rfl, hk, x, rfl⟩
  have T4 : Hid (Kept w v4) := (T3.out.trans ((kept_alloc v3 (.map #[] 0)).trans (kept_alloc _ (.cells #[ib i] 20)))).trans hk
  clear hk
  go_wp2_with fail
  refine (ZZupdate_run _ _ _ _ _ _ _ (update_bool_nil v4.heap.size _ _ _ _ (cell1 _ _ _ _ (by simp)))).mono ?_
  rintro e v5 ⟨u, er, rfl, rfl, hk, x, rfl⟩
  have T5 : Hid (Kept w v5) := (T4.out.trans (kept_alloc v4 (.cells #[.iface 4 (.bool true)] 20))).trans hk
  clear hk
  go_wp2_with fail
  refine (ZZupdate_run _ _ _ _ _ _ _ (update_bool_arr (v5.heap.size + 1) _ _ _ _ _ (cell1 _ _ _ _ (by simp)))).mono ?_
  rintro e v6 ⟨u, er, rfl, rfl, hk, x, rfl⟩
  have T6 : Hid (Kept w v6) := (T5.out.trans ((kept_alloc v5 (.cells #[] 20)).trans (kept_alloc _ (.cells #[.iface 4 (.bool true)] 20)))).trans hk
  clear hk
  go_wp2_with fail
  refine (zzEmptyPathGivesN_true _ n _).mono ?_
  rintro e v7 ⟨rfl, hk⟩
  have T7 : Hid (Kept w v7) := T6.out.trans hk
  clear hk
  go_wp2_with fail
  refine (zzEmptyPathGivesN_true _ n _).mono ?_
  rintro e v8 ⟨rfl, hk⟩
  have T8 : Hid (Kept w v8) := T7.out.trans hk
  clear hk
  go_wp2_with fail
  refine (zzEmptyPathGivesN_true _ n _).mono ?_
  rintro e v9 ⟨rfl, hk⟩
  have T9 : Hid (Kept w v9) := T8.out.trans hk
  clear hk
  go_wp2_with fail
  refine (zzEmptyPathGivesN_true _ n _).mono ?_
  rintro e v10 ⟨rfl, hk⟩
  have T10 : Hid (Kept w v10) := (T9.out.trans (kept_alloc v9 (.cells #[] 20))).trans hk
  clear hk
  go_wp2_with fail
  refine (zzEmptyPathGivesN_true _ n _).mono ?_
  rintro e v11 ⟨rfl, hk⟩
  have T11 : Hid (Kept w v11) := (T10.out.trans (kept_alloc v10 (.map #[] 0))).trans hk
  clear hk
  go_wp2_with fail
  refine (ZZupdate_run _ _ _ _ _ _ _ (update_key_nil (Q := ObjAns k n _) v11.heap.size _ _ _ k (cell1 _ _ _ _ (by simp)) (updateObject_null k n _ _ _))).mono ?_
  rintro e v12 ⟨u, er, rfl, rfl, bo, rfl, hln, hlk, hk⟩
  have T12 : Hid (Kept w v12) := (T11.out.trans (kept_alloc v11 (.cells #[.iface 9 (.string k)] 20))).trans hk
  clear hk
  by_cases c1 : i < 0
  · have c9 : ¬ i ≥ 536870912 := by omega
    go_wp2_with fail
    refine (ZZupdate_run _ _ _ _ _ _ _ (update_idx_nil (Q := Err 88 _) v12.heap.size _ _ _ i (cell1 _ _ _ _ (by simp)) ((updateArrayIndex_neg none 0 0 i _ _ _ _ none _ hi0 c1 (by omega) (by omega) (ib_not_marker n)).mono fun e w' ⟨a, h1, h2⟩ => ⟨_, _, h1, rfl, h2, a, rfl⟩))).mono ?_
    rintro e v13 ⟨u, er, rfl, rfl, hk, x, rfl⟩
    have T13 : Hid (Kept w v13) := (T12.out.trans (kept_alloc v12 (.cells #[ib i] 20))).trans hk
    clear hk
    go_wp2
    go_ret
    exact ⟨rfl, T13.out⟩
  by_cases c2 : 536870912 ≤ i
  · go_wp2_with fail
    refine (ZZupdate_run _ _ _ _ _ _ _ (update_idx_nil (Q := Err 91 _) v12.heap.size _ _ _ i (cell1 _ _ _ _ (by simp)) ((updateArrayIndex_big none 0 0 i _ _ _ _ none _ c2 (by omega) (ib_not_marker n)).mono fun e w' ⟨a, h1, h2⟩ => ⟨_, _, h1, rfl, h2, a, rfl⟩))).mono ?_
    rintro e v13 ⟨u, er, rfl, rfl, hk, x, rfl⟩
    have T13 : Hid (Kept w v13) := (T12.out.trans (kept_alloc v12 (.cells #[ib i] 20))).trans hk
    clear hk
    go_wp2
    go_ret
    exact ⟨rfl, T13.out⟩
  by_cases c3 : 65536 < i
  · go_wp2
    go_ret
    exact ⟨rfl, T12.out⟩
  obtain ⟨I, hI⟩ : ∃ I : Nat, i = I := ⟨i.toNat, by omega⟩
  have hI2 : I ≤ 65536 := by omega
  have HI := Lib.hid hI
  clear hI
  go_wp2_with fail
  refine (ZZupdate_run _ _ _ _ _ _ _ (update_idx_nil (Q := PadAns n I _) v12.heap.size _ _ _ i (cell1 _ _ _ _ (by simp)) (updateArrayIndex_null i n I HI.out hI2 _ _ _))).mono ?_
  rintro e v13 ⟨u, er, rfl, rfl, b2, M, rfl, hM, hr, hk⟩
  have T13 : Hid (Kept w v13) := (T12.out.trans (kept_alloc v12 (.cells #[ib i] 20))).trans hk
  clear hk
  have HR := Lib.hid hr
  clear hr hln hlk
  have q9 : ((((I + 1 : Nat)) : Int) != i + 1) = false := by have := HI.out; simp; omega
  have q8 : (((I : Int) + 1) != i + 1) = false := by have := HI.out; simp; omega
  go_wp2_with fail
  go_loop [26] (fun j => ∃ q : Nat, q ≤ I ∧ j = .int .i64 q) (fun j => I - (intOf j).toNat)
  case atStart => exact ⟨0, Nat.zero_le _, rfl⟩
  case round =>
    obtain ⟨q, hq, rfl⟩ := hrel
    by_cases hlt : q < I
    · have q4 : (q : Int) < i := by have := HI.out; omega
      have hc := HR.out.cell (i := q) (by omega)
      rw [if_neg (by omega)] at hc
      go_wp2
      go_round
      case rel => exact ⟨q + 1, by omega, by go_num⟩
      case measure => simp [intOf]; omega
    · obtain rfl : q = I := by omega
      obtain rfl := HI.out
      have hc := HR.out.cell (i := q) (by omega)
      rw [if_pos rfl] at hc
      have q2 : (n == n) = true := by simp
      go_wp2
      go_ret
      exact ⟨rfl, T13.out⟩
end Go.Proofs.YtlchcilkdenjeaaGreatDoor
