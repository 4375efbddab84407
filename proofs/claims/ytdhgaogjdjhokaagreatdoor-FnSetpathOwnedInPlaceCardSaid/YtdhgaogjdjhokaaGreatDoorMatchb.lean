/- The contract of zzMatches, joined; that of zzSameDoc. -/
import Derived.Test.YtdhgaogjdjhokaaGreatDoorMatch
import Derived.Test.YtdhgaogjdjhokaaGreatDoorPlumb
namespace Go.Proofs.YtdhgaogjdjhokaaGreatDoor
open Go.RowKit Go.Gq
set_option maxRecDepth 100000
theorem matches_arr (kind : Int) (hk : kind = 0 ∨ kind = 1) (a0 : Option Addr) (n0 c0 : Nat) (a1 : Option Addr) (n1 c1 : Nat) (xs : List Int) (ss : List ByteArray) (idx : Int) (key : ByteArray) (n : Int) (S : VS) (r : Value) (B : Nat) (w : World) (h0 : Rd w a0 n0 (vi xs)) (hn0 : n0 ≤ 65536)
    (hi0 : -9223372036854775808 ≤ idx) (hcap : ¬ (65536 ≤ idx ∧ idx < 536870912)) (ha : ArrOK (lenOf kind n0) xs idx n S) (hS : S.Is ss n1 key B r w) :
    Mch kind a0 n0 c0 a1 n1 c1 1 idx key n r w := by
  have hle : lenOf kind n0 ≤ n0 := by unfold lenOf; split <;> omega
  unfold ArrOK at ha
  by_cases c1 : idx < 0
  · rw [if_pos c1] at ha
    by_cases c2 : idx + (lenOf kind n0 : Nat) < 0
    · rw [if_pos c2] at ha
      subst ha
      rw [show r = _ from hS]
      exact mch_10 kind hk a0 n0 c0 a1 n1 _ idx key n w hi0 hn0 c1 c2
    · rw [if_neg c2] at ha
      subst ha
      obtain ⟨ai, an, _, rfl, hI, hB⟩ := hS
      refine mch_neg kind hk a0 n0 c0 a1 n1 _ idx key n _ ai an w hi0 hn0 c1 c2 fun w' k => ?_
      refine zzArrayOK_true a0 n0 c0 xs _ _ n _ _ ai an w' (h0.kept k) hle hn0 (by omega) (hI.kept k) (hB.kept k) fun q hq => ?_
      by_cases e : (q : Int) = idx + (lenOf kind n0 : Nat)
      · rw [if_pos e, if_pos (by omega)]
      · rw [if_neg e, if_neg (by omega), if_pos hq]
  · rw [if_neg c1] at ha
    by_cases c2 : idx < (lenOf kind n0 : Nat)
    · rw [if_pos c2] at ha
      subst ha
      obtain ⟨ai, an, _, rfl, hI, hB⟩ := hS
      refine mch_in kind hk a0 n0 c0 a1 n1 _ idx key n _ ai an w hn0 c1 c2 fun w' k => ?_
      refine zzArrayOK_true a0 n0 c0 xs _ _ n _ _ ai an w' (h0.kept k) hle hn0 (by omega) (hI.kept k) (hB.kept k) fun q hq => ?_
      by_cases e : (q : Int) = idx
      · rw [if_pos e, if_pos (by omega)]
      · rw [if_neg e, if_neg (by omega), if_pos hq]
    · rw [if_neg c2] at ha
      by_cases c3 : 536870912 ≤ idx
      · rw [if_pos c3] at ha
        subst ha
        rw [show r = _ from hS]
        exact mch_11 kind hk a0 n0 c0 a1 n1 _ idx key n w hn0 c3
      · rw [if_neg c3] at ha
        subst ha
        obtain ⟨i, rfl⟩ : ∃ i : Nat, idx = i := ⟨idx.toNat, by omega⟩
        obtain ⟨ai, an, _, rfl, hI, hB⟩ := hS
        simp only [Int.toNat_natCast] at hI hB ⊢
        refine mch_pad kind hk a0 n0 c0 a1 n1 _ i key n ai an w hn0 (by omega) c2 fun w' k => ?_
        refine zzArrayOK_true a0 n0 c0 xs _ _ n _ _ ai an w' (h0.kept k) hle hn0 (by omega) (hI.kept k) (hB.kept k) fun q hq => ?_
        by_cases e : (q : Int) = i
        · rw [if_pos e, if_pos (by omega)]
        · rw [if_neg e, if_neg (by omega)]
theorem arrOK_nil {xs : List Int} {idx n : Int} {S : VS} (h : ArrOK 0 [] idx n S) : ArrOK 0 xs idx n S := by
  unfold ArrOK at h ⊢
  by_cases c1 : idx < 0
  · rw [if_pos c1] at h ⊢
    have c2 : idx + ((0 : Nat) : Int) < 0 := by omega
    rw [if_pos c2] at h ⊢
    exact h
  · rw [if_neg c1] at h ⊢
    have c2 : ¬ idx < ((0 : Nat) : Int) := by omega
    rw [if_neg c2] at h ⊢
    simpa using h
/-- zzMatches answers true where the view shows the case table's answer. -/
theorem zzMatches_any (kind : Int) (a0 : Option Addr) (n0 c0 : Nat) (a1 : Option Addr) (n1 c1 : Nat) (xs : List Int) (ss : List ByteArray) (pkind idx : Int) (key : ByteArray) (n : Int) (S : VS) (r : Value) (B : Nat) (w : World) (h0 : Rd w a0 n0 (vi xs)) (h1 : Rd w a1 n1 (vs ss)) (hn0 : n0 ≤ 65536) (hn1 : n1 ≤ 65536)
    (hk0 : 0 ≤ kind) (hk3 : kind ≤ 3) (hp0 : 0 ≤ pkind) (hp3 : pkind ≤ 3) (h2 : kind = 2 → n1 = n0) (hi0 : -9223372036854775808 ≤ idx) (hcap : pkind = 1 → ¬ (65536 ≤ idx ∧ idx < 536870912))
    (ha : AnsOK (docOf kind n0 xs ss) pkind idx key n S) (hS : S.Is ss n1 key B r w) :
    Mch kind a0 n0 c0 a1 n1 c1 pkind idx key n r w := by
  unfold AnsOK at ha
  by_cases p0 : pkind = 0
  · subst p0
    rw [if_pos rfl] at ha
    subst ha
    obtain ⟨ai, _, rfl, h⟩ := hS
    exact mch_3 _ _ _ _ _ _ _ _ _ _ _ _ h
  · rw [if_neg p0] at ha
    by_cases p1 : pkind = 1
    · subst p1
      rw [if_pos rfl] at ha
      have hcap := hcap rfl
      obtain rfl | rfl | rfl | rfl : kind = 0 ∨ kind = 1 ∨ kind = 2 ∨ kind = 3 := by omega
      · exact matches_arr 0 (.inl rfl) a0 n0 c0 a1 n1 c1 xs ss idx key n S r B w h0 hn0 hi0 hcap (arrOK_nil ha) hS
      · exact matches_arr 1 (.inr rfl) a0 n0 c0 a1 n1 c1 xs ss idx key n S r B w h0 hn0 hi0 hcap ha hS
      · have ha : S = .kind 13 := ha
        subst ha
        rw [show r = _ from hS]
        exact mch_13 2 (.inl rfl) _ _ _ _ _ _ _ _ _ _
      · have ha : S = .kind 13 := ha
        subst ha
        rw [show r = _ from hS]
        exact mch_13 3 (.inr rfl) _ _ _ _ _ _ _ _ _ _
    · rw [if_neg p1] at ha
      by_cases p2 : pkind = 2
      · subst p2
        rw [if_pos rfl] at ha
        obtain rfl | rfl | rfl | rfl : kind = 0 ∨ kind = 1 ∨ kind = 2 ∨ kind = 3 := by omega
        · obtain ⟨l, rfl, hnd, hl⟩ : ∃ l, S = .obj l ∧ ND l ∧ ∀ x, lkp x l = if x = key then some (ia n) else none := ha
          obtain ⟨ah, av, _, rfl, hH, hV⟩ := hS
          refine mch_obj 0 (.inl rfl) a0 n0 c0 a1 n1 c1 idx key n _ ah av w fun w' k => ?_
          exact zzObjectOK_null a0 n0 c0 ss a1 n1 c1 key n l ah av 0 w' hn1 rfl (hH.kept k) (hV.kept k) hnd hl
        · have ha : S = .kind 12 := ha
          subst ha
          rw [show r = _ from hS]
          exact mch_12 1 (.inl rfl) _ _ _ _ _ _ _ _ _ _
        · obtain ⟨l, rfl, hnd, hl⟩ : ∃ l, S = .obj l ∧ ND l ∧ ∀ x, lkp x l = if x = key then some (ia n) else lkp x (objL ss xs n0) := ha
          obtain ⟨ah, av, _, rfl, hH, hV⟩ := hS
          obtain rfl : n1 = n0 := h2 rfl
          refine mch_obj 2 (.inr rfl) a0 n1 c0 a1 n1 c1 idx key n _ ah av w fun w' k => ?_
          exact zzObjectOK_obj a0 n1 c0 xs ss a1 c1 key n l ah av w' hn1 (h0.kept k) (h1.kept k) (hH.kept k) (hV.kept k) hnd hl
        · have ha : S = .kind 12 := ha
          subst ha
          rw [show r = _ from hS]
          exact mch_12 3 (.inr rfl) _ _ _ _ _ _ _ _ _ _
      · rw [if_neg p2] at ha
        obtain rfl : pkind = 3 := by omega
        subst ha
        rw [show r = _ from hS]
        exact mch_14 _ _ _ _ _ _ _ _ _ _ _
end Go.Proofs.YtdhgaogjdjhokaaGreatDoor
