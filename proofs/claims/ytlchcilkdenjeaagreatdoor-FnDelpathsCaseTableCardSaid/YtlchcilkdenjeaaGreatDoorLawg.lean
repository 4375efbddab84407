/- The walk of FnDelpathsCaseTable. -/
import Derived.Test.YtlchcilkdenjeaaGreatDoorUpdn
import Derived.Test.YtlchcilkdenjeaaGreatDoorLawa
namespace Go.Proofs.YtlchcilkdenjeaaGreatDoor
open Go.RowKit Go.Gq
set_option maxRecDepth 100000
set_option maxHeartbeats 1000000 in
theorem zzBytes_FnDelpathsCaseTable_any (a0 : Option Addr) (n0 c0 : Nat) (k : ByteArray) (i : Int) (w : World) (h0 : n0 ≤ 9223372036854775807) (h1 : k.size ≤ 9223372036854775807) :
    Calls Tryz.prog 28 #[.slice a0 n0 c0, .string k, .int .i64 i] w (SomeBool w) := by
  by_cases g0 : n0 ≤ 1048576
  rotate_left
  · go_enter Tryz.func28, Tryz.ntmps28
    go_wp2
    go_ret
    exact ⟨false, rfl, rfl⟩
  by_cases g1 : k.size ≤ 1048576
  rotate_left
  · go_enter Tryz.func28, Tryz.ntmps28
    go_wp2
    go_ret
    exact ⟨false, rfl, rfl⟩
  by_cases g2 : n0 + k.size ≤ 1048576
  rotate_left
  · go_enter Tryz.func28, Tryz.ntmps28
    go_wp2
    go_ret
    exact ⟨false, rfl, rfl⟩
  go_enter Tryz.func28, Tryz.ntmps28
  go_wp2
  go_ret
  exact ⟨true, rfl, rfl⟩
set_option maxHeartbeats 8000000 in
theorem FnDelpathsCaseTable_walk (a0 : Option Addr) (n0 c0 : Nat) (z : Nat → Int) (k : ByteArray) (i : Int) (w : World) (h0 : Rd w a0 n0 (fun t => .int .i64 (z t))) (m0 : n0 ≤ 9223372036854775807) (m1 : k.size ≤ 9223372036854775807) (hi0 : -9223372036854775808 ≤ i) (hi1 : i ≤ 9223372036854775807) :
    Calls Tryz.prog 9 #[.slice a0 n0 c0, .string k, .int .i64 i] w (TrueKept w) := by
  have H0 := Lib.hid h0
  have hmm : ∀ W : World, (Instr.makeMap 39 none).run Tryz.prog W = .ok (.map (some W.heap.size)) (W.alloc (.map #[] 0)) := make_map
  have hmo : ∀ W : World, (Instr.makeMap 41 none).run Tryz.prog W = .ok (.map (some W.heap.size)) (W.alloc (.map #[] 0)) := fun W => by
    simp [Instr.makeMap]
  clear h0
  go_enter Tryz.func9, Tryz.ntmps9
  go_wp2_with fail
  refine (zzBytes_FnDelpathsCaseTable_any a0 n0 c0 k i w m0 m1).mono ?_
  rintro e w1 ⟨b, rfl, rfl⟩
  cases b with
  | false =>
    go_wp2
    go_ret
    exact ⟨rfl, Below.refl _ _⟩
  | true =>
  by_cases g0 : 65536 < n0
  · go_wp2
    go_ret
    exact ⟨rfl, Below.refl _ _⟩
  by_cases g1 : 524288 < k.size
  · go_wp2
    go_ret
    exact ⟨rfl, Below.refl _ _⟩
  have T0 : Hid (Kept w w) := Below.refl _ _
  go_wp2_with fail
  refine (zzAnyInts_any a0 n0 c0 z w (H0.out.kept T0.out) (by omega)).mono ?_
  rintro e v1 ⟨b1, rfl, _, hr, hk⟩
  have R1 := Lib.hid hr
  have T1 : Hid (Kept w v1) := T0.out.trans hk
  clear hr hk
  go_wp2_with fail
  refine (ZZdelpaths_run _ _ _ _ (delpaths_str _ _ _ _ (.inr ⟨_, _, rfl⟩))).mono ?_
  rintro e v2 ⟨u, rfl, hE, hk⟩
  have T2 : Hid (Kept w v2) := (T1.out.trans (kept_alloc v1 (.map #[] 0))).trans hk
  clear hk
  have HE := Lib.hid hE
  clear hE
  go_wp2_with fail
  refine (zzIsErr_true _ _ HE.out).mono ?_
  rintro e v3 ⟨rfl, rfl⟩
  have T3 := T2
  clear HE
  go_wp2_with fail
  refine (zzAnyInts_any a0 n0 c0 z v2 (H0.out.kept T3.out) (by omega)).mono ?_
  rintro e v4 ⟨b4, rfl, _, hr, hk⟩
  have R4 := Lib.hid hr
  have T4 : Hid (Kept w v4) := T3.out.trans hk
  clear hr hk
  go_wp2_with fail
  refine (ZZdelpaths_run _ _ _ _ (delpaths_elem _ (.string k) (.inr ⟨_, _, rfl⟩) v4.heap.size _ _ (cell_up (cell1 _ _ _ _ (by simp))))).mono ?_
  rintro e v5 ⟨u, rfl, hE, hk⟩
  have T5 : Hid (Kept w v5) := (T4.out.trans ((kept_alloc v4 (.cells #[.iface 9 (.string k)] 20)).trans (kept_alloc _ (.map #[] 0)))).trans hk
  clear hk
  have HE := Lib.hid hE
  clear hE
  go_wp2_with fail
  refine (zzIsErr_true _ _ HE.out).mono ?_
  rintro e v6 ⟨rfl, rfl⟩
  have T6 := T5
  clear HE
  go_wp2_with fail
  refine (zzAnyInts_any a0 n0 c0 z v5 (H0.out.kept T6.out) (by omega)).mono ?_
  rintro e v7 ⟨b7, rfl, _, hr, hk⟩
  have R7 := Lib.hid hr
  have T7 : Hid (Kept w v7) := T6.out.trans hk
  clear hr hk
  go_wp2_with fail
  refine (ZZdelpaths_run _ _ _ _ (delpaths_none _ _ _ _ _)).mono ?_
  rintro e v8 ⟨u, rfl, rfl, hk⟩
  subst hk
  have KA := Lib.hid ((kept_alloc v7 (.cells #[] 20)).trans (kept_alloc _ (.map #[] 0)))
  have T8 : Hid (Kept w ((v7.alloc (.cells #[] 20)).alloc (.map #[] 0))) := T7.out.trans KA.out
  go_wp2_with fail
  refine (zzAsInts_any (some ⟨b7, 0, none⟩) n0 n0 z _ ((rd_row R7.out).kept KA.out) (by omega)).mono ?_
  rintro e v9 ⟨d, rfl, hr, hk⟩
  have T9 : Hid (Kept w v9) := T8.out.trans hk
  have RD := Lib.hid hr
  clear hr hk
  go_wp2_with fail
  refine (zzSameInts_true _ a0 n0 n0 c0 z v9 RD.out (H0.out.kept T9.out) (by omega)).mono ?_
  rintro e v10 ⟨rfl, m, rfl⟩
  have T10 : Hid (Kept w (v9.drewN m)) := T9.out.trans (kept_drewN _ _)
  obtain ⟨v10, hv⟩ : ∃ W, W = v9.drewN m := ⟨_, rfl⟩
  rw [← hv] at T10 ⊢
  clear hv
  go_wp2_with fail
  refine (zzAnyInts_any a0 n0 c0 z v10 (H0.out.kept T10.out) (by omega)).mono ?_
  rintro e v11 ⟨b11, rfl, _, hr, hk⟩
  have R11 := Lib.hid hr
  have T11 : Hid (Kept w v11) := T10.out.trans hk
  clear hr hk
  go_wp2_with fail
  refine (ZZdelpaths_run _ _ _ _ (delpaths_whole _ (.inr ⟨_, _, rfl⟩) (some ⟨v11.heap.size, 0, none⟩) 0 (v11.heap.size + 1) _ _ (cell_up (cell1 _ _ _ _ (by simp))))).mono ?_
  rintro e v12 ⟨u, rfl, rfl, hk⟩
  have T12 : Hid (Kept w v12) := (T11.out.trans (((kept_alloc v11 (.cells #[] 20)).trans (kept_alloc _ (.cells #[.iface 25 (.slice (some ⟨v11.heap.size, 0, none⟩) 0 0)] 20))).trans (kept_alloc _ (.map #[] 0)))).trans hk
  clear hk
  go_wp2_with fail
  refine (zzAnyInts_any a0 n0 c0 z v12 (H0.out.kept T12.out) (by omega)).mono ?_
  rintro e v13 ⟨b13, rfl, _, hr, hk⟩
  have R13 := Lib.hid hr
  have T13 : Hid (Kept w v13) := T12.out.trans hk
  clear hr hk
  go_wp2_with fail
  refine (ZZdelpaths_run _ _ _ _ (delpaths_refused 58 eo_not_nil _ (.inr ⟨_, _, rfl⟩) (v13.heap.size + 1) (some ⟨v13.heap.size, 0, none⟩) 1 1 _ _ (cell_up (cell1 _ _ _ _ (by simp))) fun W hk => update_key_arr v13.heap.size _ _ W k _ (kept_cell hk (cell_up (cell_up (cell1 _ _ _ _ (by simp))))))).mono ?_
  rintro e v14 ⟨u, rfl, hE, hk⟩
  have T14 : Hid (Kept w v14) := (T13.out.trans (((kept_alloc v13 (.cells #[.iface 9 (.string k)] 20)).trans (kept_alloc _ (.cells #[.iface 25 (.slice (some ⟨v13.heap.size, 0, none⟩) 1 1)] 20))).trans (kept_alloc _ (.map #[] 0)))).trans hk
  clear hk
  have HE := Lib.hid hE
  clear hE
  go_wp2_with fail
  refine (zzIsErr_true _ _ HE.out).mono ?_
  rintro e v15 ⟨rfl, rfl⟩
  have T15 := T14
  clear HE
  go_wp2_with fail
  refine (ZZdelpaths_run _ _ _ _ (delpaths_refused 66 ea_not_nil _ (.inr ⟨_, _, rfl⟩) (v14.heap.size + 1 + 1) (some ⟨v14.heap.size + 1, 0, none⟩) 1 1 _ _ (cell_up (cell1 _ _ _ _ (by simp))) fun W hk => update_idx_obj (v14.heap.size + 1) _ _ W i _ (kept_cell hk (cell_up (cell_up (cell1 _ _ _ _ (by simp))))))).mono ?_
  rintro e v16 ⟨u, rfl, hE, hk⟩
  have T16 : Hid (Kept w v16) := (T15.out.trans ((((kept_alloc v14 (.map #[] 0)).trans (kept_alloc _ (.cells #[ib i] 20))).trans (kept_alloc _ (.cells #[.iface 25 (.slice (some ⟨v14.heap.size + 1, 0, none⟩) 1 1)] 20))).trans (kept_alloc _ (.map #[] 0)))).trans hk
  clear hk
  have HE := Lib.hid hE
  clear hE
  go_wp2_with fail
  refine (zzIsErr_true _ _ HE.out).mono ?_
  rintro e v17 ⟨rfl, rfl⟩
  have T17 := T16
  clear HE
  go_wp2_with fail
  refine (ZZdelpaths_run _ _ _ _ (delpaths_refused 66 ea_not_nil _ (.inr ⟨_, _, rfl⟩) (v16.heap.size + 1) (some ⟨v16.heap.size, 0, none⟩) 1 1 _ _ (cell_up (cell1 _ _ _ _ (by simp))) fun W hk => update_idx_int v16.heap.size _ _ W i _ (kept_cell hk (cell_up (cell_up (cell1 _ _ _ _ (by simp))))))).mono ?_
  rintro e v18 ⟨u, rfl, hE, hk⟩
  have T18 : Hid (Kept w v18) := (T17.out.trans (((kept_alloc v16 (.cells #[ib i] 20)).trans (kept_alloc _ (.cells #[.iface 25 (.slice (some ⟨v16.heap.size, 0, none⟩) 1 1)] 20))).trans (kept_alloc _ (.map #[] 0)))).trans hk
  clear hk
  have HE := Lib.hid hE
  clear hE
  go_wp2_with fail
  refine (zzIsErr_true _ _ HE.out).mono ?_
  rintro e v19 ⟨rfl, rfl⟩
  have T19 := T18
  clear HE
  go_wp2_with fail
  refine (ZZdelpaths_run _ _ _ _ (delpaths_nil_key k v18.heap.size (v18.heap.size + 1) _ _ (cell_up (cell1 _ _ _ _ (by simp))) (cell_up (cell_up (cell1 _ _ _ _ (by simp)))))).mono ?_
  rintro e v20 ⟨u, rfl, rfl, hk⟩
  have T20 : Hid (Kept w v20) := (T19.out.trans (((kept_alloc v18 (.cells #[.iface 9 (.string k)] 20)).trans (kept_alloc _ (.cells #[.iface 25 (.slice (some ⟨v18.heap.size, 0, none⟩) 1 1)] 20))).trans (kept_alloc _ (.map #[] 0)))).trans hk
  clear hk
  go_wp2_with fail
  refine (ZZdelpaths_run _ _ _ _ (delpaths_nil_idx i v20.heap.size (v20.heap.size + 1) _ _ hi0 hi1 (cell_up (cell1 _ _ _ _ (by simp))) (cell_up (cell_up (cell1 _ _ _ _ (by simp)))))).mono ?_
  rintro e v21 ⟨u, rfl, rfl, hk⟩
  have T21 : Hid (Kept w v21) := (T20.out.trans (((kept_alloc v20 (.cells #[ib i] 20)).trans (kept_alloc _ (.cells #[.iface 25 (.slice (some ⟨v20.heap.size, 0, none⟩) 1 1)] 20))).trans (kept_alloc _ (.map #[] 0)))).trans hk
  clear hk
  go_wp2
  go_ret
  exact ⟨rfl, T21.out⟩
end Go.Proofs.YtlchcilkdenjeaaGreatDoor
