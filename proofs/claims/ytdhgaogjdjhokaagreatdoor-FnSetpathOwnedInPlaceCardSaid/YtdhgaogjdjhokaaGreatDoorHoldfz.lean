/- FnSetpathOwnedInPlace: the law, as a card, from its lifted walk. -/
import Derived.Test.YtdhgaogjdjhokaaGreatDoorHoldf
namespace Go.Proofs.YtdhgaogjdjhokaaGreatDoor.fnSetpathOwnedInPlace
open Go.ChangeShapes Go.WideShapes Go.ChangeAt Go.RowKit Go.Gq
theorem over : Rows.FnSetpathOwnedInPlaceSaid :=
  OpenClaim.holds_of_wide 8 Tryz.f8 rfl rfl rfl rfl rfl rfl rfl ⟨rfl, rfl, rfl, rfl, rfl⟩ rfl rfl rfl rfl rfl (by kernel_rfl) Tryz.func8 (by kernel_rfl)
    (of_decide_eq_true (by kernel_rfl)) (by unfold Func.isWrapper; first | (rw [if_pos (by decide +kernel)]; kernel_rfl) | (rw [if_neg (by decide +kernel)]; exact ⟨rfl, rfl⟩))
    (fun os started H enc _ => lifted os started H enc)
theorem card_holds : Rows.FnSetpathOwnedInPlaceCardSaid :=
  Claim7.holds_tied_plain_at .later [] [.data, .data, .widerDeep, .widerDeep, .data, .data, .data, .data, .data, .sentinel, .sentinel, .sentinel, .sentinel, .sentinel, .pinned, .pinned] true (true, "b37a791b578a62a35c223c58b7daa48566d2443d3159bc679aa4b26dafeb0eeb") true over (fun _ h => by cases h) (by kernel_rfl) (fun _ h => by cases h) fnSetpathOwnedInPlace_row_tie rfl ⟨rfl, rfl⟩ (by kernel_rfl) rfl
    (fun f fn hf hfn => by
      obtain rfl : f = 8 := Option.some.inj ((show Tryz.prog.funcNamed "github.com/itchyny/gojq/n001_87.FnSetpathOwnedInPlace" = some 8 by kernel_rfl).symm.trans hf) |>.symm
      obtain rfl : fn = Tryz.f8 := (Option.some.inj (Tryz.func8.symm.trans hfn)).symm
      exact ⟨by kernel_rfl, fun j t ht => by
        rw [Tryz.params8] at ht
        have hm : t ∈ [22, 3, 3] := by simpa using Array.mem_of_getElem? ht
        have hall : ([22, 3, 3].all fun u => !Tryz.prog.wantsStandIn u) = true := by kernel_rfl
        exact (show Tryz.prog.wantsStandIn t = false by simpa using List.all_eq_true.1 hall t hm)⟩)
    (by kernel_rfl)
end Go.Proofs.YtdhgaogjdjhokaaGreatDoor.fnSetpathOwnedInPlace
