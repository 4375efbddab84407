/- FnSuffixToIndicesExtendsList: the law, from its walk. -/
import Derived.Test.YticjhbklcpoonaaGreatDoorRows
import Derived.Test.YticjhbklcpoonaaGreatDoorCards
import Derived.Test.YticjhbklcpoonaaGreatDoorTie
import Derived.Test.YticjhbklcpoonaaGreatDoorInsin
import Derived.Test.YticjhbklcpoonaaGreatDoorSxd
import Derived.ProofKit
import Derived.OpenShut
import Derived.ShutString
import Derived.ChangeOld
import Derived.OpenVars
import Derived.Lay
import Derived.SevenTiedAt
namespace Go.Proofs.YticjhbklcpoonaaGreatDoor.fnSuffixToIndicesExtendsList
open Go.ChangeShapes Go.WideShapes Go.ChangeAt Go.RowKit Go.Gq
open Go.ChangeMaps (open_string shut_string)
theorem own : ownKnob Tryz.prog.godebug = none := by kernel_rfl
theorem laidOut : laidOutB Tryz.prog = true := by kernel_rfl
set_option maxRecDepth 100000 in
theorem lifted (os : Os) (started : os.Started) (H : Type) (enc : TypeId × Value → H) :
    ReturnsInHanded {} Tryz.checked os 5 .any (fun w args => (Rows.fnSuffixToIndicesExtendsListSpec.pre enc Tryz.prog Tryz.f5 Rows.fnSuffixToIndicesExtendsListRow.domain false w args ∧ laidMetH Tryz.prog Rows.fnSuffixToIndicesExtendsListRow.laid w) ∧ sizedMet enc Tryz.prog Tryz.f5 (OpenSpec.ofChange Rows.fnSuffixToIndicesExtendsListSpec) false w args)
      (Rows.fnSuffixToIndicesExtendsListSpec.post enc Tryz.prog Tryz.f5 false true false false) := by
  refine returnsInHanded_of_change_and (C := Tryz.checked) (X := fun w _ => laidMetH Tryz.prog Rows.fnSuffixToIndicesExtendsListRow.laid w) (fun _ _ _ hh h => h.of_heap hh) own started (by kernel_rfl) Tryz.func5
    (ChangeSpec.witness_shaped (enc := enc) (C := Tryz.checked) (os := os) (X := fun w _ => laidMetH Tryz.prog Rows.fnSuffixToIndicesExtendsListRow.laid w) false (World.laidAll Tryz.prog os Rows.fnSuffixToIndicesExtendsListRow.laid) #[.agg #[.bool false, .string ⟨#[]⟩, .bool false, .string ⟨#[]⟩, .bool false, .bool false, .int .i64 0, .string ⟨#[]⟩, .int .i64 0, .string ⟨#[]⟩, .bool false, .bool false], .slice none 0 0] 8 (World.laidAll_os _ _ _)
      (World.shaped_of_ZipB (by kernel_rfl) (by kernel_rfl)) (by kernel_rfl) (by kernel_rfl) (by kernel_rfl)
      (by rw [MakeChecks.laidMetH_plain _ _ _ (by kernel_rfl)]; exact laidMet_laidAll _ (by kernel_rfl) (by kernel_rfl))) ?_
  intro W base args ds gs before hval0 hW hc _ hL _
  have hval : ∀ (j : Nat) t v, Tryz.f5.params[j]? = some t → args[j]? = some v → Value.okWide Tryz.prog W .any base t v := hval0
  have hW' := hW
  obtain ⟨p, q, hA0, hV, rfl, _, _⟩ := hW
  have hA : DataW.TrodAll enc Tryz.prog W 0 (fun _ => true) true Tryz.f5.params.toList args.toList ds p := hA0
  rw [Tryz.params5] at hA hval
  obtain ⟨v0, vs0, d0, ds0, p0, q0, hargs, rfl, rfl, h0, r0⟩ := trodAll_cons hA
  obtain ⟨v1, vs1, d1, ds1, p1, q1, rfl, rfl, rfl, h1, r1⟩ := trodAll_cons r0
  obtain ⟨rfl, rfl, rfl⟩ := trodAll_nil r1
  obtain rfl : args = #[v0, v1] := by cases args; simp_all
  have k0 := h0
  have lt0 : ∀ x ∈ p0, x.block < W.heap.size := by obtain ⟨m, hm⟩ := k0; exact DataW.trod_lt m _ _ _ hm
  obtain ⟨hi, nm, hs, st, it, sl, sk, s, ek, es, ir, op, rfl, n1, n3, n7, n9⟩ := reads_sin (okWide_struct Tryz.underlying55 (hval 0 55 v0 rfl rfl)) h0
  obtain ⟨a1, len1, cap1, rfl⟩ := okWide_slice Tryz.underlying29 (hval 1 29 v1 rfl rfl)
  have k1 := h1
  have lt1 : ∀ x ∈ p1, x.block < W.heap.size := by obtain ⟨m, hm⟩ := k1; exact DataW.trod_lt m _ _ _ hm
  obtain ⟨z1, R1, L1, M1, C1, D1, Q1⟩ := reads_strs Tryz.underlying29 Tryz.underlying9 (by kernel_rfl) h1
  obtain ⟨g0, g1, rfl⟩ : ∃ g0 g1, gs = [g0, g1] := by
    obtain ⟨g0, t0, cs0, f0, d0, p0, g1, t1, cs1, f1, d1, p1, e, _⟩ := trodVars_two hV
    exact ⟨_, _, e⟩
  clear hA0 hval0
  refine (FnSuffixToIndicesExtendsList_walk hi nm hs st it sl sk s ek es ir op a1 len1 cap1 (fun i => z1.getD i ByteArray.empty) W R1 (le_max M1) (le_max n1) (le_max n3) (le_max n7) (le_max n9) (fun i hi => le_max (Q1 i hi))).mono fun e W' ⟨he, bel⟩ => ?_
  subst he
  exact ⟨_, rfl, _, _, _, [], _, _, hW', trodAll_mk1 (shut_bool Tryz.underlying4 _), (trodAll_cons_mk (Below.trod laidOut (by kernel_rfl) (of_decide_eq_true (by kernel_rfl)) k0 bel lt0) (trodAll_cons_mk (Below.trod laidOut (by kernel_rfl) (of_decide_eq_true (by kernel_rfl)) k1 bel lt1) trodAll_mk0)), Below.trodVars laidOut bel (by kernel_rfl) hV, bel.frame _, fun h => by cases h⟩
end Go.Proofs.YticjhbklcpoonaaGreatDoor.fnSuffixToIndicesExtendsList
