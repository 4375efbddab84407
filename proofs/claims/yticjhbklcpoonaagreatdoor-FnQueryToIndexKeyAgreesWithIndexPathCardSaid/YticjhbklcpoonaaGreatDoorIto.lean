/- zzItoa: the decimal text of a number. -/
import Derived.Test.YticjhbklcpoonaaGreatDoorNum
import Derived.Test.YticjhbklcpoonaaGreatDoorRdr
import Derived.Lib.SlBytesRow
namespace Go.Proofs.YticjhbklcpoonaaGreatDoor
open Go.RowKit Go.Gq
set_option maxRecDepth 100000
/-- The bytes from k on. -/
def tl (f : Nat → UInt8) (k : Nat) : List UInt8 := (List.range' k (5 - k)).map f
theorem tl_step (f : Nat → UInt8) (k : Nat) (d : UInt8) (h : k < 5) : tl (fun j => if j = k then d else f j) k = d :: tl f (k + 1) := by
  unfold tl
  rw [show 5 - k = (5 - (k + 1)) + 1 by omega, List.range'_succ, List.map_cons, if_pos rfl]
  congr 1
  apply List.map_congr_left
  intro x hx
  rw [List.mem_range'_1] at hx
  exact if_neg (by omega)
theorem zzDec_digs (l : List UInt8) (n : Nat) (h0 : l ≠ []) (hl : l.length ≤ 18) (h : digs 0 l = some n) : zzDec l = some (n : Int) := by
  cases l with
  | nil => exact absurd rfl h0
  | cons c r =>
    have hc : c.toNat ≠ 45 := by
      intro e
      simp only [digs] at h
      rw [if_neg (by omega)] at h
      cases h
    simp only [zzDec]
    rw [if_neg hc, if_pos hl, h]
    rfl
theorem zzItoa_ok (n : Nat) (hn : n < 65536) (w : World) :
    Calls Tryz.prog 59 #[.int .u16 n] w fun e w' => ∃ s : ByteArray, e = .returned (.string s) ∧ s.size ≤ 5 ∧ zzDec s.data.toList = some (n : Int) ∧ Kept w w' := by
  by_cases h0 : n = 0
  · subst h0
    go_enter Tryz.func59, Tryz.ntmps59
    go_wp2
    go_ret
    exact ⟨_, rfl, by decide, by decide, Below.refl _ _⟩
  · have q0 : ((n : Int) == 0) = false := by simp; omega
    go_enter Tryz.func59, Tryz.ntmps59
    go_wp2
    obtain ⟨W, HW⟩ : ∃ W : World, W = w.alloc (.cells #[.int .u8 0, .int .u8 0, .int .u8 0, .int .u8 0, .int .u8 0] 145) := ⟨_, rfl⟩
    have hrow : W.rowIs w.heap.size 145 5 (fun _ => Value.int .u8 0) := by
      have h := World.rowIs_made w (.int .u8 0) 5 145
      rw [show madeCells #[Value.int .u8 0] 5 = #[.int .u8 0, .int .u8 0, .int .u8 0, .int .u8 0, .int .u8 0] from by kernel_rfl] at h
      rw [HW]; exact h
    have hk : Kept w W := by rw [HW]; exact kept_alloc _ _
    rw [← HW]
    clear HW
    go_loopw [0, 4] (fun t i wr => ∃ (N k : Nat) (f : Nat → UInt8), t = .int .u16 N ∧ i = .int .i64 k ∧ k ≤ 5 ∧ N < 10 ^ k ∧ N < 65536 ∧ (k = 5 → N ≠ 0) ∧ digs N (tl f k) = some n ∧ wr.rowIs w.heap.size 145 5 (fun j => Value.int .u8 ((f j).toNat : Int)) ∧ Kept w wr) (fun _ i _ => (intOf i).toNat)
    case atStart => exact ⟨n, 5, fun _ => 0, rfl, rfl, by omega, by omega, hn, fun _ => h0, rfl, hrow, hk⟩
    case round =>
      obtain ⟨N, k, f, rfl, rfl, hk5, hNk, hN, hne, hd, hrw, hkp⟩ := hrel
      by_cases hz : N = 0
      · subst hz
        have hk4 : k ≤ 4 := by
          rcases Nat.lt_or_ge k 5 with h | h
          · omega
          · exact absurd rfl (hne (by omega))
        have hlen : (tl f k).length = 5 - k := by simp [tl]
        have hsl : (Instr.sliceAt 145 (.pointer (some ⟨w.heap.size, 0, none⟩)) (some (.int .i64 (k : Int))) none none).run Tryz.prog wr = .ok (.slice (some ⟨w.heap.size, k, none⟩) (5 - k) (5 - k)) wr := by
          have h := run_sliceAt_array_l (P := Tryz.prog) wr 145 ⟨w.heap.size, 0, none⟩ (by kernel_rfl) .i64 (k : Int) (by omega) (by rw [show Tryz.prog.arrayLen 145 = 5 from by kernel_rfl]; omega)
          have hsz : (sizeOf (Tryz.prog.elem 145)).run Tryz.prog wr = .ok 1 wr := by kernel_rfl
          rw [h, hsz]
          simp only [Result.andThen, slicedAt, show Tryz.prog.arrayLen 145 = 5 from by kernel_rfl, Int.toNat_natCast]
          rw [if_neg (by omega)]
          simp [Addr.add]
          exact fun h => h.symm
        have hcv : (convert 100 9 (.slice (some ⟨w.heap.size, k, none⟩) (5 - k) (5 - k))).run Tryz.prog wr = .ok (.string ⟨(tl f k).toArray⟩) wr := by
          have h := Lib.run_convert_whole (P := Tryz.prog) wr 100 5 9 (by kernel_rfl) (by kernel_rfl) (by kernel_rfl) w.heap.size k ⟨(tl f k).toArray⟩ (fun i hi => by
            have hi' : i < 5 - k := by
              have h2 : i < (tl f k).toArray.size := hi
              rw [List.size_toArray, hlen] at h2
              exact h2
            rw [hrw.cell (show k + i < 5 by omega)]
            have : (⟨(tl f k).toArray⟩ : ByteArray)[i]'hi = f (k + i) := by
              show (tl f k).toArray[i]'_ = _
              simp [tl]
            rw [this]) (5 - k)
          rw [show (⟨(tl f k).toArray⟩ : ByteArray).size = 5 - k from by rw [← hlen]; rfl] at h
          exact h
        go_wp2
        go_ret
        exact ⟨_, rfl, by show (tl f k).toArray.size ≤ 5; simp [hlen], zzDec_digs (tl f k) n (fun e => by rw [e] at hlen; simp at hlen; omega) (by omega) hd, hkp⟩
      · have hk0 : 0 < k := by
          rcases Nat.eq_zero_or_pos k with h | h
          · subst h; simp at hNk; omega
          · exact h
        obtain ⟨m, rfl⟩ : ∃ m, k = m + 1 := ⟨k - 1, by omega⟩
        have c0 := hrw.cell (show m < 5 by omega)
        have f0 := hrw.frozen m
        have q1 : (0 : Int) < (N : Int) := by omega
        have hset := hrw.set m (.int .u8 (48 + (N : Int) % 10))
        have hk2 := hkp.setCell (p := ⟨w.heap.size, m, none⟩) (Nat.le_refl _) (Value.int .u8 (48 + (N : Int) % 10))
        go_wp2
        go_roundw
        case rel =>
          have hdn : (UInt8.ofNat (48 + N % 10)).toNat = 48 + N % 10 := by
            rw [UInt8.toNat_ofNat']
            omega
          refine ⟨N / 10, m, fun j => if j = m then UInt8.ofNat (48 + N % 10) else f j, congrArg _ (by omega), rfl, by omega, ?_, by omega, fun h => by omega, ?_, ?_, hk2⟩
          · rw [Nat.pow_succ] at hNk; omega
          · rw [tl_step _ _ _ (by omega)]
            simp only [digs]
            rw [hdn, if_pos ⟨by omega, by omega⟩, show N / 10 * 10 + (48 + N % 10 - 48) = N by omega]
            exact hd
          · refine hset.congr fun j hj => ?_
            by_cases e : j = m
            · subst e
              simp only [if_true]
              rw [hdn]
              congr 1
            · simp only [if_neg e]
        case measure => simp [intOf]
end Go.Proofs.YticjhbklcpoonaaGreatDoor
