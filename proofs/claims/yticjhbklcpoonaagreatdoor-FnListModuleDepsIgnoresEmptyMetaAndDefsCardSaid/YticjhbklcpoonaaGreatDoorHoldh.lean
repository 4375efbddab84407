/- FnListModuleDepsIgnoresEmptyMetaAndDefs: the law, from its walk. -/
import Derived.Test.YticjhbklcpoonaaGreatDoorRows
import Derived.Test.YticjhbklcpoonaaGreatDoorCards
import Derived.Test.YticjhbklcpoonaaGreatDoorTie
import Derived.Test.YticjhbklcpoonaaGreatDoorIn
import Derived.Test.YticjhbklcpoonaaGreatDoorLwd
import Derived.ProofKit
import Derived.OpenShut
import Derived.ShutString
import Derived.ChangeOld
import Derived.OpenVars
import Derived.Lay
import Derived.SevenTiedAt
namespace Go.Proofs.YticjhbklcpoonaaGreatDoor.fnListModuleDepsIgnoresEmptyMetaAndDefs
open Go.ChangeShapes Go.WideShapes Go.ChangeAt Go.RowKit Go.Gq
open Go.ChangeMaps (open_string shut_string)
theorem own : ownKnob Tryz.prog.godebug = none := by kernel_rfl
theorem laidOut : laidOutB Tryz.prog = true := by kernel_rfl
set_option maxRecDepth 100000 in
theorem lifted (os : Os) (started : os.Started) (H : Type) (enc : TypeId × Value → H) :
    ReturnsInHanded {} Tryz.checked os 4 .any (fun w args => (Rows.fnListModuleDepsIgnoresEmptyMetaAndDefsSpec.pre enc Tryz.prog Tryz.f4 Rows.fnListModuleDepsIgnoresEmptyMetaAndDefsRow.domain false w args ∧ laidMetH Tryz.prog Rows.fnListModuleDepsIgnoresEmptyMetaAndDefsRow.laid w) ∧ sizedMet enc Tryz.prog Tryz.f4 (OpenSpec.ofChange Rows.fnListModuleDepsIgnoresEmptyMetaAndDefsSpec) false w args)
      (Rows.fnListModuleDepsIgnoresEmptyMetaAndDefsSpec.post enc Tryz.prog Tryz.f4 false true false false) := by
  refine returnsInHanded_of_change_and (C := Tryz.checked) (X := fun w _ => laidMetH Tryz.prog Rows.fnListModuleDepsIgnoresEmptyMetaAndDefsRow.laid w) (fun _ _ _ hh h => h.of_heap hh) own started (by kernel_rfl) Tryz.func4
    (ChangeSpec.witness_shaped (enc := enc) (C := Tryz.checked) (os := os) (X := fun w _ => laidMetH Tryz.prog Rows.fnListModuleDepsIgnoresEmptyMetaAndDefsRow.laid w) false (World.laidAll Tryz.prog os Rows.fnListModuleDepsIgnoresEmptyMetaAndDefsRow.laid) #[.slice none 0 0, .slice none 0 0, .slice none 0 0] 8 (World.laidAll_os _ _ _)
      (World.shaped_of_ZipB (by kernel_rfl) (by kernel_rfl)) (by kernel_rfl) (by kernel_rfl) (by kernel_rfl)
      (by rw [MakeChecks.laidMetH_plain _ _ _ (by kernel_rfl)]; exact laidMet_laidAll _ (by kernel_rfl) (by kernel_rfl))) ?_
  intro W base args ds gs before hval0 hW hc _ hL _
  have hval : ∀ (j : Nat) t v, Tryz.f4.params[j]? = some t → args[j]? = some v → Value.okWide Tryz.prog W .any base t v := hval0
  have hW' := hW
  obtain ⟨p, q, hA0, hV, rfl, _, _⟩ := hW
  have hA : DataW.TrodAll enc Tryz.prog W 0 (fun _ => true) true Tryz.f4.params.toList args.toList ds p := hA0
  rw [Tryz.params4] at hA hval
  obtain ⟨v0, vs0, d0, ds0, p0, q0, hargs, rfl, rfl, h0, r0⟩ := trodAll_cons hA
  obtain ⟨v1, vs1, d1, ds1, p1, q1, rfl, rfl, rfl, h1, r1⟩ := trodAll_cons r0
  obtain ⟨v2, vs2, d2, ds2, p2, q2, rfl, rfl, rfl, h2, r2⟩ := trodAll_cons r1
  obtain ⟨rfl, rfl, rfl⟩ := trodAll_nil r2
  obtain rfl : args = #[v0, v1, v2] := by cases args; simp_all
  obtain ⟨a0, len0, cap0, rfl⟩ := okWide_slice Tryz.underlying29 (hval 0 29 v0 rfl rfl)
  have k0 := h0
  have lt0 : ∀ x ∈ p0, x.block < W.heap.size := by obtain ⟨m, hm⟩ := k0; exact DataW.trod_lt m _ _ _ hm
  obtain ⟨z0, R0, L0, M0, C0, D0, Q0⟩ := reads_strs Tryz.underlying29 Tryz.underlying9 (by kernel_rfl) h0
  obtain ⟨a1, len1, cap1, rfl⟩ := okWide_slice Tryz.underlying29 (hval 1 29 v1 rfl rfl)
  have k1 := h1
  have lt1 : ∀ x ∈ p1, x.block < W.heap.size := by obtain ⟨m, hm⟩ := k1; exact DataW.trod_lt m _ _ _ hm
  obtain ⟨z1, R1, L1, M1, C1, D1, Q1⟩ := reads_strs Tryz.underlying29 Tryz.underlying9 (by kernel_rfl) h1
  obtain ⟨a2, len2, cap2, rfl⟩ := okWide_slice Tryz.underlying29 (hval 2 29 v2 rfl rfl)
  have k2 := h2
  have lt2 : ∀ x ∈ p2, x.block < W.heap.size := by obtain ⟨m, hm⟩ := k2; exact DataW.trod_lt m _ _ _ hm
  obtain ⟨z2, R2, L2, M2, C2, D2, Q2⟩ := reads_strs Tryz.underlying29 Tryz.underlying9 (by kernel_rfl) h2
  obtain ⟨g0, g1, rfl⟩ : ∃ g0 g1, gs = [g0, g1] := by
    obtain ⟨g0, t0, cs0, f0, d0, p0, g1, t1, cs1, f1, d1, p1, e, _⟩ := trodVars_two hV
    exact ⟨_, _, e⟩
  clear hA0 hval0
  refine (FnListModuleDepsIgnoresEmptyMetaAndDefs_walk W a0 len0 cap0 (fun i => z0.getD i ByteArray.empty) R0 (le_max M0) (fun i hi => le_max (Q0 i hi)) a1 len1 cap1 (fun i => z1.getD i ByteArray.empty) R1 (le_max M1) (fun i hi => le_max (Q1 i hi)) a2 len2 cap2 (fun i => z2.getD i ByteArray.empty) R2 (le_max M2) (fun i hi => le_max (Q2 i hi))).mono fun e W' ⟨he, bel⟩ => ?_
  subst he
  exact ⟨_, rfl, _, _, _, [], _, _, hW', trodAll_mk1 (shut_bool Tryz.underlying4 _), (trodAll_cons_mk (Below.trod laidOut (by kernel_rfl) (of_decide_eq_true (by kernel_rfl)) k0 bel lt0) (trodAll_cons_mk (Below.trod laidOut (by kernel_rfl) (of_decide_eq_true (by kernel_rfl)) k1 bel lt1) (trodAll_cons_mk (Below.trod laidOut (by kernel_rfl) (of_decide_eq_true (by kernel_rfl)) k2 bel lt2) trodAll_mk0))), Below.trodVars laidOut bel (by kernel_rfl) hV, bel.frame _, fun h => by cases h⟩
end Go.Proofs.YticjhbklcpoonaaGreatDoor.fnListModuleDepsIgnoresEmptyMetaAndDefs
