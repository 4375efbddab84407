/- FnQueryToIndexKeyAgreesWithIndexPath: the law, as a card, from its lifted walk. -/
import Derived.Test.YticjhbklcpoonaaGreatDoorHoldj
import Derived.Test.YticjhbklcpoonaaGreatDoorShut
namespace Go.Proofs.YticjhbklcpoonaaGreatDoor.fnQueryToIndexKeyAgreesWithIndexPath
open Go.ChangeShapes Go.WideShapes Go.ChangeAt Go.RowKit Go.Gq
set_option maxHeartbeats 4000000 in
theorem closed : joinedFacts Tryz.checked.prog 7 Tryz.f7 Rows.fnQueryToIndexKeyAgreesWithIndexPathSpec Rows.fnQueryToIndexKeyAgreesWithIndexPathRow = true := by
  unfold joinedFacts
  simp only [Bool.and_eq_true]
  refine ⟨⟨⟨⟨⟨⟨⟨⟨?_, sh_heard⟩, sh_enter⟩, by rw [sh_lifts]; kernel_rfl⟩, by rw [sh_make]; kernel_rfl⟩, ?_⟩, ?_⟩, ?_⟩, ?_⟩
  all_goals (repeat' refine And.intro ?_ ?_)
  all_goals exact (by as_aux_lemma => kernel_rfl)
theorem over : Rows.FnQueryToIndexKeyAgreesWithIndexPathSaid :=
  OpenClaim.holds_of_wide 7 Tryz.f7 rfl rfl rfl rfl rfl rfl rfl ⟨rfl, rfl, rfl, rfl, rfl⟩ rfl rfl rfl rfl rfl (by kernel_rfl) Tryz.func7 closed
    (of_decide_eq_true (by kernel_rfl)) (by unfold Func.isWrapper; first | (rw [if_pos (by decide +kernel)]; kernel_rfl) | (rw [if_neg (by decide +kernel)]; exact ⟨rfl, rfl⟩))
    (fun os started H enc _ => lifted os started H enc)
theorem card_holds : Rows.FnQueryToIndexKeyAgreesWithIndexPathCardSaid :=
  Claim7.holds_tied_plain_at .later [] [.data, .data, .widerDeep, .widerDeep, .data, .data, .data, .data, .data, .sentinel, .sentinel, .sentinel, .sentinel, .sentinel, .pinned, .pinned] true (true, "7620d6df44218411cc67c82f8ba1b856313683b09599e03f71dcc026c88d7761") true over (fun _ h => by cases h) (by kernel_rfl) (fun _ h => by cases h) fnQueryToIndexKeyAgreesWithIndexPath_row_tie rfl ⟨rfl, rfl⟩ sh_main rfl
    (fun f fn hf hfn => by
      obtain rfl : f = 7 := Option.some.inj ((show Tryz.prog.funcNamed "github.com/itchyny/gojq/n001_63.FnQueryToIndexKeyAgreesWithIndexPath" = some 7 by kernel_rfl).symm.trans hf) |>.symm
      obtain rfl : fn = Tryz.f7 := (Option.some.inj (Tryz.func7.symm.trans hfn)).symm
      exact ⟨by kernel_rfl, fun j t ht => by
        rw [Tryz.params7] at ht
        have hm : t ∈ [5, 5, 9, 22, 4, 4, 4, 29] := by simpa using Array.mem_of_getElem? ht
        have hall : ([5, 5, 9, 22, 4, 4, 4, 29].all fun u => !Tryz.prog.wantsStandIn u) = true := by kernel_rfl
        exact (show Tryz.prog.wantsStandIn t = false by simpa using List.all_eq_true.1 hall t hm)⟩)
    (by kernel_rfl)
end Go.Proofs.YticjhbklcpoonaaGreatDoor.fnQueryToIndexKeyAgreesWithIndexPath
