/- FnFuncSliceCaseTable: the law, from its walk. -/
import Derived.Test.YticjhbklcpoonaaGreatDoorRows
import Derived.Test.YticjhbklcpoonaaGreatDoorCards
import Derived.Test.YticjhbklcpoonaaGreatDoorTie
import Derived.Test.YticjhbklcpoonaaGreatDoorIn
import Derived.Test.YticjhbklcpoonaaGreatDoorCtc
import Derived.ProofKit
import Derived.OpenShut
import Derived.ShutString
import Derived.ChangeOld
import Derived.OpenVars
import Derived.Lay
import Derived.SevenTiedAt
namespace Go.Proofs.YticjhbklcpoonaaGreatDoor.fnFuncSliceCaseTable
open Go.ChangeShapes Go.WideShapes Go.ChangeAt Go.RowKit Go.Gq
open Go.ChangeMaps (open_string shut_string)
theorem own : ownKnob Tryz.prog.godebug = none := by kernel_rfl
theorem laidOut : laidOutB Tryz.prog = true := by kernel_rfl
set_option maxRecDepth 100000 in
theorem lifted (os : Os) (started : os.Started) (H : Type) (enc : TypeId × Value → H) :
    ReturnsInHanded {} Tryz.checked os 9 .any (fun w args => (Rows.fnFuncSliceCaseTableSpec.pre enc Tryz.prog Tryz.f9 Rows.fnFuncSliceCaseTableRow.domain false w args ∧ laidMetH Tryz.prog Rows.fnFuncSliceCaseTableRow.laid w) ∧ sizedMet enc Tryz.prog Tryz.f9 (OpenSpec.ofChange Rows.fnFuncSliceCaseTableSpec) false w args)
      (Rows.fnFuncSliceCaseTableSpec.post enc Tryz.prog Tryz.f9 false true false false) := by
  refine returnsInHanded_of_change_and (C := Tryz.checked) (X := fun w _ => laidMetH Tryz.prog Rows.fnFuncSliceCaseTableRow.laid w) (fun _ _ _ hh h => h.of_heap hh) own started (by kernel_rfl) Tryz.func9
    (ChangeSpec.witness_shaped (enc := enc) (C := Tryz.checked) (os := os) (X := fun w _ => laidMetH Tryz.prog Rows.fnFuncSliceCaseTableRow.laid w) false (World.laidAll Tryz.prog os Rows.fnFuncSliceCaseTableRow.laid) #[.int .i64 0, .string ⟨#[]⟩, .slice none 0 0, .int .i64 0, .int .i64 0, .float .f64 0, .int .i64 0, .int .i64 0, .float .f64 0] 8 (World.laidAll_os _ _ _)
      (World.shaped_of_ZipB (by kernel_rfl) (by kernel_rfl)) (by kernel_rfl) (by kernel_rfl) (by kernel_rfl)
      (by rw [MakeChecks.laidMetH_plain _ _ _ (by kernel_rfl)]; exact laidMet_laidAll _ (by kernel_rfl) (by kernel_rfl))) ?_
  intro W base args ds gs before hval0 hW hc _ hL _
  have hval : ∀ (j : Nat) t v, Tryz.f9.params[j]? = some t → args[j]? = some v → Value.okWide Tryz.prog W .any base t v := hval0
  have hW' := hW
  obtain ⟨p, q, hA0, hV, rfl, _, _⟩ := hW
  have hA : DataW.TrodAll enc Tryz.prog W 0 (fun _ => true) true Tryz.f9.params.toList args.toList ds p := hA0
  rw [Tryz.params9] at hA hval
  obtain ⟨v0, vs0, d0, ds0, p0, q0, hargs, rfl, rfl, h0, r0⟩ := trodAll_cons hA
  obtain ⟨v1, vs1, d1, ds1, p1, q1, rfl, rfl, rfl, h1, r1⟩ := trodAll_cons r0
  obtain ⟨v2, vs2, d2, ds2, p2, q2, rfl, rfl, rfl, h2, r2⟩ := trodAll_cons r1
  obtain ⟨v3, vs3, d3, ds3, p3, q3, rfl, rfl, rfl, h3, r3⟩ := trodAll_cons r2
  obtain ⟨v4, vs4, d4, ds4, p4, q4, rfl, rfl, rfl, h4, r4⟩ := trodAll_cons r3
  obtain ⟨v5, vs5, d5, ds5, p5, q5, rfl, rfl, rfl, h5, r5⟩ := trodAll_cons r4
  obtain ⟨v6, vs6, d6, ds6, p6, q6, rfl, rfl, rfl, h6, r6⟩ := trodAll_cons r5
  obtain ⟨v7, vs7, d7, ds7, p7, q7, rfl, rfl, rfl, h7, r7⟩ := trodAll_cons r6
  obtain ⟨v8, vs8, d8, ds8, p8, q8, rfl, rfl, rfl, h8, r8⟩ := trodAll_cons r7
  obtain ⟨rfl, rfl, rfl⟩ := trodAll_nil r8
  obtain rfl : args = #[v0, v1, v2, v3, v4, v5, v6, v7, v8] := by cases args; simp_all
  obtain ⟨i0, rfl, rfl, rfl, w0⟩ := open_int Tryz.underlying3 (hval 0 3 v0 rfl rfl) h0
  obtain ⟨s1, rfl, rfl, rfl, m1⟩ := open_string Tryz.underlying9 (hval 1 9 v1 rfl rfl) h1
  obtain ⟨a2, len2, cap2, rfl⟩ := okWide_slice Tryz.underlying64 (hval 2 64 v2 rfl rfl)
  have k2 := h2
  have lt2 : ∀ x ∈ p2, x.block < W.heap.size := by obtain ⟨m, hm⟩ := k2; exact DataW.trod_lt m _ _ _ hm
  obtain ⟨z2, R2, L2, M2, C2, D2, Q2⟩ := reads_ints Tryz.underlying64 Tryz.underlying3 (by kernel_rfl) h2
  obtain ⟨i3, rfl, rfl, rfl, w3⟩ := open_int Tryz.underlying3 (hval 3 3 v3 rfl rfl) h3
  obtain ⟨i4, rfl, rfl, rfl, w4⟩ := open_int Tryz.underlying3 (hval 4 3 v4 rfl rfl) h4
  obtain ⟨i5, rfl, rfl, rfl, w5⟩ := open_float Tryz.underlying69 (hval 5 69 v5 rfl rfl) h5
  obtain ⟨i6, rfl, rfl, rfl, w6⟩ := open_int Tryz.underlying3 (hval 6 3 v6 rfl rfl) h6
  obtain ⟨i7, rfl, rfl, rfl, w7⟩ := open_int Tryz.underlying3 (hval 7 3 v7 rfl rfl) h7
  obtain ⟨i8, rfl, rfl, rfl, w8⟩ := open_float Tryz.underlying69 (hval 8 69 v8 rfl rfl) h8
  obtain ⟨g0, g1, rfl⟩ : ∃ g0 g1, gs = [g0, g1] := by
    obtain ⟨g0, t0, cs0, f0, d0, p0, g1, t1, cs1, f1, d1, p1, e, _⟩ := trodVars_two hV
    exact ⟨_, _, e⟩
  clear hA0 hval0
  refine (FnFuncSliceCaseTable_walk i0 s1 a2 len2 cap2 (fun i => z2.getD i 0) i3 i4 i5 i6 i7 i8 W (le_max m1) R2 (le_max M2) (wf_lo w4) (wf_hi w4) (wf_lo w7) (wf_hi w7)).mono fun e W' ⟨he, bel⟩ => ?_
  subst he
  exact ⟨_, rfl, _, _, _, [], _, _, hW', trodAll_mk1 (shut_bool Tryz.underlying4 _), (trodAll_cons_mk (shut_int Tryz.underlying3 w0) (trodAll_cons_mk (shut_string Tryz.underlying9 m1) (trodAll_cons_mk (Below.trod laidOut (by kernel_rfl) (of_decide_eq_true (by kernel_rfl)) k2 bel lt2) (trodAll_cons_mk (shut_int Tryz.underlying3 w3) (trodAll_cons_mk (shut_int Tryz.underlying3 w4) (trodAll_cons_mk (shut_float Tryz.underlying69 w5) (trodAll_cons_mk (shut_int Tryz.underlying3 w6) (trodAll_cons_mk (shut_int Tryz.underlying3 w7) (trodAll_cons_mk (shut_float Tryz.underlying69 w8) trodAll_mk0))))))))), Below.trodVars laidOut bel (by kernel_rfl) hV, bel.frame _, fun h => by cases h⟩
end Go.Proofs.YticjhbklcpoonaaGreatDoor.fnFuncSliceCaseTable
