/- The steps of a path, and its term. -/
import Derived.Test.YtelbnidpchemiaaGreatDoorSufh
import Derived.Deep.RegionHeld3
namespace Go.Proofs.YtelbnidpchemiaaGreatDoor
open Go.RowKit Go.Gq
set_option maxRecDepth 100000
def tx (n : Nat) (s : Nat → ByteArray) (i : Nat) : ByteArray := if i < n then s i else ⟨#[]⟩
theorem zzTextAt_any (a : Option Addr) (n c : Nat) (s : Nat → ByteArray) (i : Nat) (w : World) (h : Rd w a n (fun i => .string (s i))) (_hn : n ≤ 4611686018427387904) (hi : i ≤ 4611686018427387904) :
    Calls Tryz.prog 49 #[.slice a n c, .int .i64 i] w fun e w' => e = .returned (.string (tx n s i)) ∧ w' = w := by
  have q0 : (0 : Int) ≤ (i : Int) := by omega
  by_cases hlt : i < n
  · obtain ⟨b, o, rfl, hc⟩ := h.at hlt
    have q1 : (i : Int) < (n : Int) := by omega
    have e : tx n s i = s i := if_pos hlt
    rw [e]
    go_enter Tryz.func49, Tryz.ntmps49
    go_wp2
    go_ret
    exact ⟨rfl, rfl⟩
  · have q1 : (n : Int) ≤ (i : Int) := by omega
    have e : tx n s i = ⟨#[]⟩ := if_neg hlt
    rw [e]
    go_enter Tryz.func49, Tryz.ntmps49
    go_wp2
    go_ret
    exact ⟨rfl, rfl⟩
/-- The key of a step: kinds 0 a name (the empty one is k), 1 a string; the rest have none. -/
def pk (k : Int) (x : ByteArray) : Option ByteArray := if k.tmod 5 = 0 then some (if x.toList.isEmpty = true then ⟨#[107]⟩ else x) else if k.tmod 5 = 1 then some x else none
def StepAns (k : Int) (x : ByteArray) (w : World) (e : Ending) (w' : World) : Prop :=
  ∃ (ip : Value) (sf : Nat), e = .returned (.tuple #[ip, bq sf]) ∧ SufH w' sf (pk k x) ∧ ((ip = np ∧ pk k x = none) ∨ ∃ i, ip = bq i ∧ IdxH w' i (pk k x)) ∧ Kept w w'
set_option maxHeartbeats 2000000 in
theorem zzPathStep_any (k : Int) (x : ByteArray) (w : World) (h0 : 0 ≤ k) (_h1 : k < 256) : Calls Tryz.prog 48 #[.int .u8 k, .string x] w (StepAns k x w) := by
  have hr : k.tmod 5 = 0 ∨ k.tmod 5 = 1 ∨ k.tmod 5 = 2 ∨ k.tmod 5 = 3 ∨ k.tmod 5 = 4 := by
    rw [Int.tmod_eq_emod_of_nonneg h0]; omega
  rcases hr with hr | hr | hr | hr | hr
  · · cases e : x.toList.isEmpty with
    | true =>
      have hpk : pk k x = some (⟨#[107]⟩ : ByteArray) := by unfold pk; rw [if_pos hr, e]; rfl
      go_enter Tryz.func48, Tryz.ntmps48
      go_wp2
      have hi : IdxH ((w.alloc (.cells #[.string (⟨#[107]⟩ : ByteArray), np, np, np, .bool false] 76)).alloc (.cells #[bq w.heap.size, .bool false, .bool false] 133)) w.heap.size (pk k x) := by
        refine ⟨(⟨#[107]⟩ : ByteArray), _, _, _, _, (heap_alloc_old _ _ (by simp)).trans (heap_alloc_new _ _), .inl ⟨by rw [ByteArray.toList_eq]; rfl, hpk⟩⟩
      have hs : SufH ((w.alloc (.cells #[.string (⟨#[107]⟩ : ByteArray), np, np, np, .bool false] 76)).alloc (.cells #[bq w.heap.size, .bool false, .bool false] 133)) (w.heap.size + 1) (pk k x) := by
        refine ⟨bq w.heap.size, .bool false, .bool false, ?_, .inr ⟨_, rfl, hi⟩⟩
        rw [show w.heap.size + 1 = (w.alloc (.cells #[.string (⟨#[107]⟩ : ByteArray), np, np, np, .bool false] 76)).heap.size by simp]
        exact heap_alloc_new _ _
      refine bodyPost_ret (v := .tuple #[bq w.heap.size, bq (w.heap.size + 1)]) (by simp [results, Tryz.results48, go_sem]) rfl ?_
      refine ⟨_, _, rfl, hs, .inr ⟨_, rfl, hi⟩, (kept_alloc _ _).trans (kept_alloc _ _)⟩
    | false =>
      have hpk : pk k x = some x := by unfold pk; rw [if_pos hr, e]; rfl
      go_enter Tryz.func48, Tryz.ntmps48
      go_wp2
      have hi : IdxH ((w.alloc (.cells #[.string x, np, np, np, .bool false] 76)).alloc (.cells #[bq w.heap.size, .bool false, .bool false] 133)) w.heap.size (pk k x) := by
        refine ⟨x, _, _, _, _, (heap_alloc_old _ _ (by simp)).trans (heap_alloc_new _ _), .inl ⟨e, hpk⟩⟩
      have hs : SufH ((w.alloc (.cells #[.string x, np, np, np, .bool false] 76)).alloc (.cells #[bq w.heap.size, .bool false, .bool false] 133)) (w.heap.size + 1) (pk k x) := by
        refine ⟨bq w.heap.size, .bool false, .bool false, ?_, .inr ⟨_, rfl, hi⟩⟩
        rw [show w.heap.size + 1 = (w.alloc (.cells #[.string x, np, np, np, .bool false] 76)).heap.size by simp]
        exact heap_alloc_new _ _
      refine bodyPost_ret (v := .tuple #[bq w.heap.size, bq (w.heap.size + 1)]) (by simp [results, Tryz.results48, go_sem]) rfl ?_
      refine ⟨_, _, rfl, hs, .inr ⟨_, rfl, hi⟩, (kept_alloc _ _).trans (kept_alloc _ _)⟩
  · have hpk : pk k x = some x := by unfold pk; rw [if_neg (by omega), if_pos hr]
    go_enter Tryz.func48, Tryz.ntmps48
    go_wp2
    have hz1 : (w.alloc (.cells #[.string x, ns] 118)).heap.size = w.heap.size + 1 := by simp
    have hz2 : ((w.alloc (.cells #[.string x, ns] 118)).alloc (.cells #[.string ⟨#[]⟩, bq (w.heap.size), np, np, .bool false] 76)).heap.size = w.heap.size + 1 + 1 := by simp
    have hst : (((w.alloc (.cells #[.string x, ns] 118)).alloc (.cells #[.string ⟨#[]⟩, bq (w.heap.size), np, np, .bool false] 76)).alloc (.cells #[bq (w.heap.size + 1), .bool false, .bool false] 133)).heap[w.heap.size]? = some (.cells #[.string x, ns] 118) := by
      rw [heap_alloc_old _ _ (by rw [hz2]; omega), heap_alloc_old _ _ (by rw [hz1]; omega)]
      exact heap_alloc_new _ _
    have hi : IdxH (((w.alloc (.cells #[.string x, ns] 118)).alloc (.cells #[.string ⟨#[]⟩, bq (w.heap.size), np, np, .bool false] 76)).alloc (.cells #[bq (w.heap.size + 1), .bool false, .bool false] 133)) (w.heap.size + 1) (pk k x) := by
      refine ⟨⟨#[]⟩, bq (w.heap.size), np, np, .bool false, ?_, .inr ⟨rfl, _, _, _, _, _, rfl, hst, by rw [hpk]; rfl⟩⟩
      rw [heap_alloc_old _ _ (by rw [hz2]; omega), ← hz1]
      exact heap_alloc_new _ _
    have hs : SufH (((w.alloc (.cells #[.string x, ns] 118)).alloc (.cells #[.string ⟨#[]⟩, bq (w.heap.size), np, np, .bool false] 76)).alloc (.cells #[bq (w.heap.size + 1), .bool false, .bool false] 133)) (w.heap.size + 1 + 1) (pk k x) := by
      refine ⟨bq (w.heap.size + 1), .bool false, .bool false, ?_, .inr ⟨_, rfl, hi⟩⟩
      rw [← hz2]
      exact heap_alloc_new _ _
    refine bodyPost_ret (v := .tuple #[bq (w.heap.size + 1), bq (w.heap.size + 1 + 1)]) (by simp [results, Tryz.results48, go_sem]) rfl ?_
    refine ⟨_, _, rfl, hs, .inr ⟨_, rfl, hi⟩, (kept_alloc _ _).trans ((kept_alloc _ _).trans (kept_alloc _ _))⟩
  · have hpk : pk k x = none := by unfold pk; rw [if_neg (by omega), if_neg (by omega)]
    go_enter Tryz.func48, Tryz.ntmps48
    go_wp2
    have hs : SufH (w.alloc (.cells #[np, .bool true, .bool false] 133)) w.heap.size (pk k x) := ⟨_, _, _, heap_alloc_new _ _, .inl ⟨rfl, hpk⟩⟩
    refine bodyPost_ret (v := .tuple #[np, bq w.heap.size]) (by simp [results, Tryz.results48, go_sem]) rfl ?_
    refine ⟨_, _, rfl, hs, .inl ⟨rfl, hpk⟩, kept_alloc _ _⟩
  · have hpk : pk k x = none := by unfold pk; rw [if_neg (by omega), if_neg (by omega)]
    go_enter Tryz.func48, Tryz.ntmps48
    go_wp2
    have hs : SufH (w.alloc (.cells #[np, .bool false, .bool true] 133)) w.heap.size (pk k x) := ⟨_, _, _, heap_alloc_new _ _, .inl ⟨rfl, hpk⟩⟩
    refine bodyPost_ret (v := .tuple #[np, bq w.heap.size]) (by simp [results, Tryz.results48, go_sem]) rfl ?_
    refine ⟨_, _, rfl, hs, .inl ⟨rfl, hpk⟩, kept_alloc _ _⟩
  · have hpk : pk k x = none := by unfold pk; rw [if_neg (by omega), if_neg (by omega)]
    go_enter Tryz.func48, Tryz.ntmps48
    go_wp2
    have hz1 : ((w.alloc (.cells #[] 24)).alloc (.cells #[.string x, .slice (some ⟨w.heap.size, 0, none⟩) 0 0] 118)).heap.size = w.heap.size + 1 + 1 := by simp
    have hz2 : (((w.alloc (.cells #[] 24)).alloc (.cells #[.string x, .slice (some ⟨w.heap.size, 0, none⟩) 0 0] 118)).alloc (.cells #[.string ⟨#[]⟩, bq (w.heap.size + 1), np, np, .bool false] 76)).heap.size = w.heap.size + 1 + 1 + 1 := by simp
    have hst : ((((w.alloc (.cells #[] 24)).alloc (.cells #[.string x, .slice (some ⟨w.heap.size, 0, none⟩) 0 0] 118)).alloc (.cells #[.string ⟨#[]⟩, bq (w.heap.size + 1), np, np, .bool false] 76)).alloc (.cells #[bq (w.heap.size + 1 + 1), .bool false, .bool false] 133)).heap[w.heap.size + 1]? = some (.cells #[.string x, .slice (some ⟨w.heap.size, 0, none⟩) 0 0] 118) := by
      rw [heap_alloc_old _ _ (by rw [hz2]; omega), heap_alloc_old _ _ (by rw [hz1]; omega)]
      rw [show w.heap.size + 1 = (w.alloc (.cells #[] 24)).heap.size by simp]; exact heap_alloc_new _ _
    have hi : IdxH ((((w.alloc (.cells #[] 24)).alloc (.cells #[.string x, .slice (some ⟨w.heap.size, 0, none⟩) 0 0] 118)).alloc (.cells #[.string ⟨#[]⟩, bq (w.heap.size + 1), np, np, .bool false] 76)).alloc (.cells #[bq (w.heap.size + 1 + 1), .bool false, .bool false] 133)) (w.heap.size + 1 + 1) (pk k x) := by
      refine ⟨⟨#[]⟩, bq (w.heap.size + 1), np, np, .bool false, ?_, .inr ⟨rfl, _, _, _, _, _, rfl, hst, by rw [hpk]; rfl⟩⟩
      rw [heap_alloc_old _ _ (by rw [hz2]; omega), ← hz1]
      exact heap_alloc_new _ _
    have hs : SufH ((((w.alloc (.cells #[] 24)).alloc (.cells #[.string x, .slice (some ⟨w.heap.size, 0, none⟩) 0 0] 118)).alloc (.cells #[.string ⟨#[]⟩, bq (w.heap.size + 1), np, np, .bool false] 76)).alloc (.cells #[bq (w.heap.size + 1 + 1), .bool false, .bool false] 133)) (w.heap.size + 1 + 1 + 1) (pk k x) := by
      refine ⟨bq (w.heap.size + 1 + 1), .bool false, .bool false, ?_, .inr ⟨_, rfl, hi⟩⟩
      rw [← hz2]
      exact heap_alloc_new _ _
    refine bodyPost_ret (v := .tuple #[bq (w.heap.size + 1 + 1), bq (w.heap.size + 1 + 1 + 1)]) (by simp [results, Tryz.results48, go_sem]) rfl ?_
    refine ⟨_, _, rfl, hs, .inr ⟨_, rfl, hi⟩, (kept_alloc _ _).trans ((kept_alloc _ _).trans ((kept_alloc _ _).trans (kept_alloc _ _)))⟩
end Go.Proofs.YtelbnidpchemiaaGreatDoor
