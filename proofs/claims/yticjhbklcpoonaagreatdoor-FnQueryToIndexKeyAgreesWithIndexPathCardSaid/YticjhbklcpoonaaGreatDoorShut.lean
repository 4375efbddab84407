/- Closed facts on this translation's head: its first three words, and what they come to. -/
import Derived.Test.YticjhbklcpoonaaGreatDoorCutw
namespace Go.Proofs.YticjhbklcpoonaaGreatDoor
open Go.RowKit Go.Gq
theorem sh_words : (wordsSigns Tryz.checked.prog.initOrder.toList).take 3 = ["harness".toList, "7620d6df44218411cc67c82f8ba1b856313683b09599e03f71dcc026c88d7761".toList, "cut".toList] := by kernel_rfl
theorem sh_sum : isSumSigns "7620d6df44218411cc67c82f8ba1b856313683b09599e03f71dcc026c88d7761".toList = true := by kernel_rfl
theorem sh_main : Tryz.checked.prog.mainIs = some (true, "7620d6df44218411cc67c82f8ba1b856313683b09599e03f71dcc026c88d7761".toList) := mainIs_of sh_words sh_sum
theorem sh_lifts : Tryz.checked.prog.liftsFinal = false := liftsFinal_of sh_words sh_sum
theorem sh_make : Tryz.checked.prog.make = some .cut := make_of sh_words sh_sum
theorem sh_enter : Tryz.checked.prog.mayEnter = true := mayEnter_of sh_words sh_sum (by as_aux_lemma => kernel_rfl) (by as_aux_lemma => kernel_rfl) (by as_aux_lemma => kernel_rfl)
theorem sh_heard : Tryz.checked.prog.stopsHeard = true := by kernel_rfl
end Go.Proofs.YticjhbklcpoonaaGreatDoor
