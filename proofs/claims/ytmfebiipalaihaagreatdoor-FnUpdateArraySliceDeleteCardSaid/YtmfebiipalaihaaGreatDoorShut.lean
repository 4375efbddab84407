/- Closed facts on this translation's head: its first three words, and what they come to. -/
import Derived.Test.YtmfebiipalaihaaGreatDoorCutw
namespace Go.Proofs.YtmfebiipalaihaaGreatDoor
open Go.RowKit Go.Gq
theorem sh_words : (wordsSigns Tryz.checked.prog.initOrder.toList).take 3 = ["harness".toList, "da5752880e43aa8858a3d1ca70e846e0573d04c6e6f33975babc3a35c9ca51ea".toList, "cut".toList] := by kernel_rfl
theorem sh_sum : isSumSigns "da5752880e43aa8858a3d1ca70e846e0573d04c6e6f33975babc3a35c9ca51ea".toList = true := by kernel_rfl
theorem sh_main : Tryz.checked.prog.mainIs = some (true, "da5752880e43aa8858a3d1ca70e846e0573d04c6e6f33975babc3a35c9ca51ea".toList) := mainIs_of sh_words sh_sum
theorem sh_lifts : Tryz.checked.prog.liftsFinal = false := liftsFinal_of sh_words sh_sum
theorem sh_make : Tryz.checked.prog.make = some .cut := make_of sh_words sh_sum
theorem sh_enter : Tryz.checked.prog.mayEnter = true := mayEnter_of sh_words sh_sum (by as_aux_lemma => kernel_rfl) (by as_aux_lemma => kernel_rfl) (by as_aux_lemma => kernel_rfl)
theorem sh_heard : Tryz.checked.prog.stopsHeard = true := by kernel_rfl
end Go.Proofs.YtmfebiipalaihaaGreatDoor
