/- Closed facts on this translation's head: its first three words, and what they come to. -/
import Derived.Test.YtlchcilkdenjeaaGreatDoorCutw
namespace Go.Proofs.YtlchcilkdenjeaaGreatDoor
open Go.RowKit Go.Gq
theorem sh_words : (wordsSigns Tryz.checked.prog.initOrder.toList).take 3 = ["harness".toList, "aac7427c292e1efe1822a28a2109598b3eb365c2b2576ae770689ddd002d9b2f".toList, "cut".toList] := by kernel_rfl
theorem sh_sum : isSumSigns "aac7427c292e1efe1822a28a2109598b3eb365c2b2576ae770689ddd002d9b2f".toList = true := by kernel_rfl
theorem sh_main : Tryz.checked.prog.mainIs = some (true, "aac7427c292e1efe1822a28a2109598b3eb365c2b2576ae770689ddd002d9b2f".toList) := mainIs_of sh_words sh_sum
theorem sh_lifts : Tryz.checked.prog.liftsFinal = false := liftsFinal_of sh_words sh_sum
theorem sh_make : Tryz.checked.prog.make = some .cut := make_of sh_words sh_sum
theorem sh_enter : Tryz.checked.prog.mayEnter = true := mayEnter_of sh_words sh_sum (by as_aux_lemma => kernel_rfl) (by as_aux_lemma => kernel_rfl) (by as_aux_lemma => kernel_rfl)
theorem sh_heard : Tryz.checked.prog.stopsHeard = true := by kernel_rfl
end Go.Proofs.YtlchcilkdenjeaaGreatDoor
