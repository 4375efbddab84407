/- Program-independent: what the head's words come to, out of its first three. -/
import Derived.Test.YticjhbklcpoonaaGreatDoorRows
import Derived.ProofKit
namespace Go.Gq
open Go
theorem words_split {P : Program} {a b c : List Char} (h : (wordsSigns P.initOrder.toList).take 3 = [a, b, c]) : ∃ r, wordsSigns P.initOrder.toList = a :: b :: c :: r := by
  generalize wordsSigns P.initOrder.toList = l at h
  match l, h with
  | [], h => simp at h
  | [_], h => simp at h
  | [_, _], h => simp at h
  | x :: y :: z :: r, h =>
    simp at h
    obtain ⟨rfl, rfl, rfl⟩ := h
    exact ⟨r, rfl⟩
theorem strip_none (w : List Char) : ∀ (os : List String) (ws : List (List Char)), (∀ o ∈ os, (w == o.toList) = false) → stripLifts os (w :: ws) = ([], w :: ws)
  | [], _, _ => rfl
  | o :: os, ws, h => by
    rw [stripLifts, h o (by simp)]
    exact strip_none w os ws fun o' ho => h o' (by simp [ho])
theorem cut_lifts : ∀ o ∈ liftWords, ("cut".toList == o.toList) = false := by decide +kernel
section
variable {P : Program} {sum : String} (h : (wordsSigns P.initOrder.toList).take 3 = ["harness".toList, sum.toList, "cut".toList]) (hs : isSumSigns sum.toList = true)
include h hs
theorem mainIs_of : P.mainIs = some (true, sum.toList) := by
  obtain ⟨r, e⟩ := words_split h
  unfold Program.mainIs
  rw [e]
  simp [hs]
theorem behind_of : ∃ r, behindMainWord (wordsSigns P.initOrder.toList) = "cut".toList :: r := by
  obtain ⟨r, e⟩ := words_split h
  refine ⟨r, ?_⟩
  rw [e]
  unfold behindMainWord
  simp [hs]
theorem headLifts_of : P.headLifts = [] := by
  obtain ⟨r, e⟩ := behind_of h hs
  unfold Program.headLifts
  rw [e, strip_none _ _ _ cut_lifts]
  simp
theorem liftsFinal_of : P.liftsFinal = false := by
  obtain ⟨r, e⟩ := behind_of h hs
  unfold Program.liftsFinal
  rw [e, headLifts_of h hs]
  simp
theorem make_of : P.make = some .cut := by
  obtain ⟨r, e⟩ := behind_of h hs
  unfold Program.make
  rw [e]
  simp
theorem mayEnter_of (h1 : P.laysLater = false) (h2 : P.bearsReflect = false) (h3 : P.doorFits [] = true) : P.mayEnter = true := by
  obtain ⟨r, e⟩ := behind_of h hs
  have a1 : ("cut".toList == "gc".toList) = false := by decide +kernel
  have a2 : ("cut".toList == "spec".toList) = false := by decide +kernel
  have a3 : ("cut".toList == "carried".toList) = false := by decide +kernel
  unfold Program.mayEnter
  rw [e]
  simp only [strip_none _ _ _ cut_lifts, a1, a2, a3, h1, h2, h3]
  simp
end
end Go.Gq
