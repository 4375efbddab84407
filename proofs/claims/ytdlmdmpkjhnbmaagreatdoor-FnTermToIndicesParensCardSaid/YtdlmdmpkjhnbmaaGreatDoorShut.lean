/- Closed facts on this translation's head: its first three words, and what they come to. -/
import Derived.Test.YtdlmdmpkjhnbmaaGreatDoorCutw
namespace Go.Proofs.YtdlmdmpkjhnbmaaGreatDoor
open Go.RowKit Go.Gq
theorem sh_words : (wordsSigns Tryz.checked.prog.initOrder.toList).take 3 = ["harness".toList, "d849769ef567356a28ef5cc2ba2eb9e193acfbcce4b5e7ea07da3197b7240b60".toList, "cut".toList] := by kernel_rfl
theorem sh_sum : isSumSigns "d849769ef567356a28ef5cc2ba2eb9e193acfbcce4b5e7ea07da3197b7240b60".toList = true := by kernel_rfl
theorem sh_main : Tryz.checked.prog.mainIs = some (true, "d849769ef567356a28ef5cc2ba2eb9e193acfbcce4b5e7ea07da3197b7240b60".toList) := mainIs_of sh_words sh_sum
theorem sh_lifts : Tryz.checked.prog.liftsFinal = false := liftsFinal_of sh_words sh_sum
theorem sh_make : Tryz.checked.prog.make = some .cut := make_of sh_words sh_sum
theorem sh_enter : Tryz.checked.prog.mayEnter = true := mayEnter_of sh_words sh_sum (by as_aux_lemma => kernel_rfl) (by as_aux_lemma => kernel_rfl) (by as_aux_lemma => kernel_rfl)
theorem sh_heard : Tryz.checked.prog.stopsHeard = true := by kernel_rfl
end Go.Proofs.YtdlmdmpkjhnbmaaGreatDoor
