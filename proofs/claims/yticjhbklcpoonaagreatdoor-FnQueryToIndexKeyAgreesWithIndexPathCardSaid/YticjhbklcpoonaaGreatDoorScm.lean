/- (nat).scan at twenty nines. -/
import Derived.Test.YticjhbklcpoonaaGreatDoorScn
import Derived.Test.YticjhbklcpoonaaGreatDoorDec
namespace Go.Proofs.YticjhbklcpoonaaGreatDoor
open Go.RowKit Go.Gq
set_option maxRecDepth 100000
def t99 : ByteArray := ⟨#[57, 57, 57, 57, 57, 57, 57, 57, 57, 57, 57, 57, 57, 57, 57, 57, 57, 57, 57, 57]⟩
theorem t99_size : t99.size = 20 := rfl
theorem t99_at : ∀ k (h : k < t99.size), (((t99[k]'h).toNat : Nat) : Int) = 57 := by decide
theorem eof_eq (w : World) (p : Addr) : (binOp .eql 128 (.iface 252 (.pointer (some p))) (.iface 252 (.pointer (some p)))).run Tryz.prog w = .ok (.bool true) w := by
  have h1 : (Tryz.prog.info? 252).map (fun i => i.comparable) = some true := by kernel_rfl
  have h2 : (Tryz.prog.info? 254).map (fun i => i.comparable) = some true := by kernel_rfl
  obtain ⟨i, hi, hc⟩ := Option.map_eq_some_iff.1 h1
  obtain ⟨j, hj, _⟩ := Option.map_eq_some_iff.1 h2
  exact run_eql_iface_ptr_same w p Tryz.underlying128 Tryz.underlying252 hi hc hj
set_option maxHeartbeats 1000000 in
theorem scan_99 (w : World) (R : Nat) (h : RdAt w R t99 0) (ev : Value) (p : Addr) (hev : ev = .iface 252 (.pointer (some p))) (he : w.cell? ⟨1, 0, none⟩ = some ev) (hR : R ≠ 1) :
    Calls Tryz.prog 126 #[.slice none 0 0, rdI R, .int .i64 10, .bool false] w fun e w' => ∃ N, e = .returned (.tuple #[.slice (some ⟨N, 0, none⟩) 2 6, .int .i64 10, .int .i64 20, .nilIface]) ∧ w.heap.size ≤ N ∧ Wds w' N #[.int .u64 7766279631452241919, .int .u64 5, .int .u64 0, .int .u64 0, .int .u64 0, .int .u64 0] ∧ RdAt w' R t99 20 ∧ Keep (fun k => k = R) w w' := by
  subst hev
  go_enter Tryz.func126, Tryz.ntmps126
  go_wp2_with fail
  refine (readByte_at w R t99 0 57 (by decide) (by decide) (by decide) h).mono ?_
  rintro e w1 ⟨rfl, h1, k1⟩
  go_wp2_with fail
  refine (maxPow_run w1).mono ?_
  rintro e w2 ⟨rfl, rfl⟩
  go_wp2
  go_loopw [0, 3, 10, 11, 13, 14, 15, 20, 21, 22] (fun z fo co er pv iv ch di i dp wr => fo = .bool false ∧ iv = .bool false ∧ dp = .int .i64 (-1) ∧ Keep (fun k => k = R) w wr ∧ ((∃ k d : Nat, ∃ q, k ≤ 18 ∧ d + 1 = 10 ^ k ∧ z = .slice none 0 0 ∧ co = .int .i64 k ∧ er = .nilIface ∧ pv = .int .i32 q ∧ ch = .int .u8 57 ∧ di = .int .u64 d ∧ i = .int .i64 k ∧ RdAt wr R t99 (k + 1)) ∨ (∃ N, N ≠ R ∧ z = .slice (some ⟨N, 0, none⟩) 1 1 ∧ w.heap.size ≤ N ∧ Wds wr N #[.int .u64 9999999999999999999] ∧ co = .int .i64 19 ∧ er = .nilIface ∧ pv = .int .i32 48 ∧ ch = .int .u8 57 ∧ di = .int .u64 0 ∧ i = .int .i64 0 ∧ RdAt wr R t99 20) ∨ (∃ N, N ≠ R ∧ z = .slice (some ⟨N, 0, none⟩) 1 1 ∧ w.heap.size ≤ N ∧ Wds wr N #[.int .u64 9999999999999999999] ∧ co = .int .i64 20 ∧ er = .iface 252 (.pointer (some p)) ∧ pv = .int .i32 48 ∧ ch = .int .u8 0 ∧ di = .int .u64 9 ∧ i = .int .i64 1 ∧ RdAt wr R t99 20))) (fun _ _ co _ _ _ _ _ _ _ _ => 20 - (intOf co).toNat)
  case atStart => exact ⟨rfl, rfl, rfl, k1, .inl ⟨0, 0, _, by omega, rfl, rfl, rfl, rfl, rfl, rfl, rfl, rfl, h1⟩⟩
  case round =>
    obtain ⟨rfl, rfl, rfl, hk, ⟨k, d, q, hk18, hd, rfl, rfl, rfl, rfl, rfl, rfl, rfl, hr⟩ | ⟨N, hNR, rfl, hN, hw, rfl, rfl, rfl, rfl, rfl, rfl, hr⟩ | ⟨N, hNR, rfl, hN, hw, rfl, rfl, rfl, rfl, rfl, rfl, hr⟩⟩ := hrel
    · by_cases hlt : k < 18
      · have hb : 10 ^ k ≤ 1000000000000000000 := pow18 (by omega)
        have b0 : (d : Int) ≤ 999999999999999999 := by omega
        have b1 : (0 : Int) ≤ (d : Int) := by omega
        have q1 : ((k : Int) + 1 == 19) = false := by simp; omega
        go_wp2_with fail
        refine (readByte_at _ R t99 (k + 1) 57 (by decide) (by rw [t99_size]; omega) (t99_at _ _) hr).mono ?_
        rintro e w3 ⟨rfl, h3, k3⟩
        go_wp2
        go_roundw
        case rel => exact ⟨rfl, rfl, rfl, hk.trans k3, .inl ⟨k + 1, d * 10 + 9, _, by omega, by rw [Nat.pow_succ]; omega, rfl, by go_num, rfl, rfl, rfl, by go_num, by go_num, h3⟩⟩
        case measure => simp [intOf]; omega
      · obtain rfl : k = 18 := by omega
        obtain rfl : d = 999999999999999999 := by omega
        go_wp2_with fail
        refine (mulAddWW_nil _ _ _ (by decide)).mono ?_
        rintro e w3 ⟨N, rfl, hN, hd, hk3⟩
        have hNR : N ≠ R := fun e => by have := cell_lt hr.c0; dsimp only at this; omega
        have h3 := hr.keep (S := fun _ => False) (keep_of_below _ hk3) (fun h => h)
        go_wp2_with fail
        refine (readByte_at _ R t99 19 57 (by decide) (by decide) (by decide) h3).mono ?_
        rintro e w4 ⟨rfl, h4, k4⟩
        go_wp2
        go_roundw
        case rel => exact ⟨rfl, rfl, rfl, (hk.trans (keep_of_below _ hk3)).trans k4, .inr (.inl ⟨N, hNR, rfl, Nat.le_trans hk.size hN, hd.keep k4 hNR, rfl, rfl, rfl, rfl, rfl, rfl, h4⟩)⟩
        case measure => simp [intOf]
    · have hRw : R < wr.heap.size := cell_lt hr.c0
      have he3 := keep_cell hk he (Ne.symm hR)
      go_wp2_with fail
      refine (readByte_end _ R t99 _ (by decide) hr he3 hR).mono ?_
      rintro e w4 ⟨rfl, h4, k4⟩
      go_wp2
      go_roundw
      case rel => exact ⟨rfl, rfl, rfl, hk.trans k4, .inr (.inr ⟨N, hNR, rfl, hN, hw.keep k4 hNR, rfl, rfl, rfl, rfl, rfl, rfl, h4⟩)⟩
      case measure => simp [intOf]
    · have he3 := keep_cell hk he (Ne.symm hR)
      have qe := eof_eq wr p
      go_wp2_with fail
      refine (pow_run _).mono ?_
      rintro e w4 ⟨rfl, rfl⟩
      go_wp2_with fail
      refine (mulAddWW_one _ N hw).mono ?_
      rintro e w5 ⟨M, rfl, hM, hd, hk5⟩
      go_wp2
      exact bodyPost_ret (v := .tuple #[.slice (some ⟨M, 0, none⟩) 2 6, .int .i64 10, .int .i64 20, .nilIface]) (by simp [results, Tryz.results126, go_sem]) rfl ⟨M, rfl, Nat.le_trans hk.size hM, hd, hr.keep (S := fun _ => False) (keep_of_below _ hk5) (fun h => h), hk.trans (keep_of_below _ hk5)⟩
end Go.Proofs.YticjhbklcpoonaaGreatDoor
