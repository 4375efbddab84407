/- The contract of zzArrayOK: true where the view shows the array that it asks for. -/
import Derived.Test.YtdhgaogjdjhokaaGreatDoorChk
import Derived.BigQuiet
namespace Go.Proofs.YtdhgaogjdjhokaaGreatDoor
open Go.RowKit Go.Gq
set_option maxRecDepth 100000
def TrueKept (w : World) (e : Ending) (w' : World) : Prop := e = .returned (.bool true) ∧ Kept w w'
set_option maxHeartbeats 4000000 in
theorem zzArrayOK_true (a0 : Option Addr) (n0 c0 : Nat) (xs : List Int) (L : Nat) (pos n : Int) (len : Nat) (g : Nat → Option Int) (ai an : Addr) (w : World) (h0 : Rd w a0 n0 (vi xs)) (hL : L ≤ n0) (_hn0 : n0 ≤ 65536) (hlen : len ≤ 1048576)
    (hI : Rd w (some ai) len (fun i => .int .i64 ((g i).getD 0))) (hB : Rd w (some an) len (fun i => .bool (g i).isNone)) (hg : ∀ k, k < len → g k = if (k : Int) = pos then some n else if k < L then some (xs.getD k 0) else none) :
    Calls Tryz.prog 26 #[.slice a0 n0 c0, .int .i64 L, .int .i64 pos, .int .i64 n, .int .i64 len, vagg 1 (some ai) len len (some an) len len 0 none 0 0 none 0 0] w (TrueKept w) := by
  unfold vagg
  have hk0 := kept_alloc w (.cells #[.int .i64 1, .slice (some ai) len len, .slice (some an) len len, .int .i64 0, .slice none 0 0, .slice none 0 0] 31)
  have h0' := h0.kept hk0
  have hI' := hI.kept hk0
  have hB' := hB.kept hk0
  have HG := Lib.hid hg
  clear hg h0 hI hB
  go_enter Tryz.func26, Tryz.ntmps26
  go_wp2
  obtain ⟨W, HW⟩ : ∃ W : World, W = w.alloc (.cells #[.int .i64 1, .slice (some ai) len len, .slice (some an) len len, .int .i64 0, .slice none 0 0, .slice none 0 0] 31) := ⟨_, rfl⟩
  have hrow : W.rowIs w.heap.size 31 6 (fun j => [Value.int .i64 1, .slice (some ai) len len, .slice (some an) len len, .int .i64 0, .slice none 0 0, .slice none 0 0].getD j undef) := by rw [HW]; exact row_of (l := [_, _, _, _, _, _]) (heap_alloc_new w _)
  have s1 := hrow.cell (i := 1) (by omega)
  have s2 := hrow.cell (i := 2) (by omega)
  simp only [List.getD_cons_succ, List.getD_cons_zero] at s1 s2
  rw [← HW] at h0' hI' hB' hk0 ⊢
  clear HW hrow
  go_loopw [13] (fun i wr => ∃ (k : Nat) (m : Nat), k ≤ len ∧ i = .int .i64 k ∧ wr = W.drewN m) (fun i _ => len - (intOf i).toNat)
  case atStart => exact ⟨0, 0, Nat.zero_le _, rfl, rfl⟩
  case round =>
    obtain ⟨k, m, hk, rfl, rfl⟩ := hrel
    by_cases hlt : k < len
    · obtain ⟨b1, o1, e1, hc1⟩ := hI'.at hlt
      obtain ⟨b2, o2, e2, hc2⟩ := hB'.at hlt
      injection e1 with e1
      injection e2 with e2
      subst e1 e2
      have q2 : (0 : Int) ≤ (k : Int) := by omega
      have q3 : (k : Int) < (len : Int) := by omega
      have hgk := HG.out k hlt
      by_cases p1 : (k : Int) = pos
      · rw [if_pos p1] at hgk
        simp only [hgk, Option.getD_some, Option.isNone_some] at hc1 hc2
        have hp : ((k : Int) == pos) = true := by simpa using p1
        have hn : (n != n) = false := by simp
        have Hg := Lib.hid hgk
        clear hgk hI' hB' h0' p1
        go_wp2
        go_roundw
        case rel => exact ⟨k + 1, m, by omega, by go_num, rfl⟩
        case measure => simp [intOf]; omega
      · rw [if_neg p1] at hgk
        have hp : ((k : Int) == pos) = false := by simpa using p1
        by_cases p2 : k < L
        · rw [if_pos p2] at hgk
          obtain ⟨b3, o3, rfl, hc3⟩ := h0'.at (k := k) (by omega)
          obtain ⟨z, hz⟩ : ∃ z, z = xs.getD k 0 := ⟨_, rfl⟩
          simp only [hgk, Option.getD_some, Option.isNone_some] at hc1 hc2
          simp only [vi] at hc3
          rw [← hz] at hc1 hc3
          have hn : (z != z) = false := by simp
          have q4 : (k : Int) < (n0 : Int) := by omega
          have q5 : (k : Int) < (L : Int) := by omega
          clear hgk hI' hB' h0' p1 hz
          go_wp2_with fail
          go_quiet (fail)
          go_wp2
          go_roundw
          case rel => exact ⟨k + 1, _, by omega, by go_num, rfl⟩
          case measure => simp [intOf]; omega
        · rw [if_neg p2] at hgk
          simp only [hgk, Option.getD_none, Option.isNone_none] at hc1 hc2
          clear hgk hI' hB' h0' p1
          go_wp2
          go_roundw
          case rel => exact ⟨k + 1, m, by omega, by go_num, rfl⟩
          case measure => simp [intOf]; omega
    · have : k = len := by omega
      subst this
      go_wp2
      go_ret
      exact ⟨rfl, hk0.trans (kept_drewN _ _)⟩
end Go.Proofs.YtdhgaogjdjhokaaGreatDoor
