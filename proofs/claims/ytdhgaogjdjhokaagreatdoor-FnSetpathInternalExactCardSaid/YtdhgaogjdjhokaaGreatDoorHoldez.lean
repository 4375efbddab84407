/- FnSetpathInternalExact: the law, as a card, from its lifted walk. -/
import Derived.Test.YtdhgaogjdjhokaaGreatDoorHolde
namespace Go.Proofs.YtdhgaogjdjhokaaGreatDoor.fnSetpathInternalExact
open Go.ChangeShapes Go.WideShapes Go.ChangeAt Go.RowKit Go.Gq
theorem over : Rows.FnSetpathInternalExactSaid :=
  OpenClaim.holds_of_wide 4 Tryz.f4 rfl rfl rfl rfl rfl rfl rfl ⟨rfl, rfl, rfl, rfl, rfl⟩ rfl rfl rfl rfl rfl (by kernel_rfl) Tryz.func4 (by kernel_rfl)
    (of_decide_eq_true (by kernel_rfl)) (by unfold Func.isWrapper; first | (rw [if_pos (by decide +kernel)]; kernel_rfl) | (rw [if_neg (by decide +kernel)]; exact ⟨rfl, rfl⟩))
    (fun os started H enc _ => lifted os started H enc)
theorem card_holds : Rows.FnSetpathInternalExactCardSaid :=
  Claim7.holds_tied_plain_at .later [] [.data, .data, .widerDeep, .widerDeep, .data, .data, .data, .data, .data, .sentinel, .sentinel, .sentinel, .sentinel, .sentinel, .pinned, .pinned] true (true, "b37a791b578a62a35c223c58b7daa48566d2443d3159bc679aa4b26dafeb0eeb") true over (fun _ h => by cases h) (by kernel_rfl) (fun _ h => by cases h) fnSetpathInternalExact_row_tie rfl ⟨rfl, rfl⟩ (by kernel_rfl) rfl
    (fun f fn hf hfn => by
      obtain rfl : f = 4 := Option.some.inj ((show Tryz.prog.funcNamed "github.com/itchyny/gojq/n001_87.FnSetpathInternalExact" = some 4 by kernel_rfl).symm.trans hf) |>.symm
      obtain rfl : fn = Tryz.f4 := (Option.some.inj (Tryz.func4.symm.trans hfn)).symm
      exact ⟨by kernel_rfl, fun j t ht => by
        rw [Tryz.params4] at ht
        have hm : t ∈ [3, 22, 23, 3, 3, 9, 3, 4] := by simpa using Array.mem_of_getElem? ht
        have hall : ([3, 22, 23, 3, 3, 9, 3, 4].all fun u => !Tryz.prog.wantsStandIn u) = true := by kernel_rfl
        exact (show Tryz.prog.wantsStandIn t = false by simpa using List.all_eq_true.1 hall t hm)⟩)
    (by kernel_rfl)
end Go.Proofs.YtdhgaogjdjhokaaGreatDoor.fnSetpathInternalExact
