/- (nat).scan at 1e1000. -/
import Derived.Test.YticjhbklcpoonaaGreatDoorMul
import Derived.Test.YticjhbklcpoonaaGreatDoorPfl
namespace Go.Proofs.YticjhbklcpoonaaGreatDoor
open Go.RowKit Go.Gq
set_option maxRecDepth 100000
abbrev rdI (R : Nat) : Value := .iface 199 (.pointer (some ⟨R, 0, none⟩))
theorem nil_ne (w : World) (p : Addr) : (binOp .eql 128 .nilIface (.iface 252 (.pointer (some p)))).run Tryz.prog w = .ok (.bool false) w := by kernel_rfl
theorem readByte_at (w : World) (R : Nat) (s : ByteArray) (i : Nat) (b : Int) (hs : s.size ≤ 4611686018427387904) (hi : i < s.size) (hb : ((s[i]'hi).toNat : Int) = b) (h : RdAt w R s i) :
    Calls Tryz.prog 254 #[.pointer (some ⟨R, 0, none⟩)] w fun e w' => e = .returned (.tuple #[.int .u8 b, .nilIface]) ∧ RdAt w' R s (i + 1) ∧ Keep (fun k => k = R) w w' := by
  subst hb
  exact readByte_ok w R s i hs hi h
set_option maxHeartbeats 1000000 in
theorem scan_1e1000 (w : World) (R : Nat) (h : RdAt w R t1e1000 0) (ev : Value) (hev : ∃ p, ev = .iface 252 (.pointer (some p))) (he : w.cell? ⟨1, 0, none⟩ = some ev) (hR : R ≠ 1) :
    Calls Tryz.prog 126 #[.slice none 0 0, rdI R, .int .i64 10, .bool false] w fun e w' => ∃ N, e = .returned (.tuple #[.slice (some ⟨N, 0, none⟩) 1 1, .int .i64 10, .int .i64 1, .nilIface]) ∧ w.heap.size ≤ N ∧ Wds w' N #[.int .u64 1] ∧ RdAt w' R t1e1000 1 ∧ Keep (fun k => k = R) w w' := by
  obtain ⟨p, rfl⟩ := hev
  go_enter Tryz.func126, Tryz.ntmps126
  go_wp2_with fail
  refine (readByte_at w R t1e1000 0 49 (by decide) (by decide) (by decide) h).mono ?_
  rintro e w1 ⟨rfl, h1, k1⟩
  go_wp2_with fail
  refine (maxPow_run w1).mono ?_
  rintro e w2 ⟨rfl, rfl⟩
  go_wp2
  go_loopw [0, 3, 10, 11, 13, 14, 15, 20, 21, 22] (fun z fo co er pv iv ch di i dp wr => z = .slice none 0 0 ∧ fo = .bool false ∧ er = .nilIface ∧ iv = .bool false ∧ dp = .int .i64 (-1) ∧ ((co = .int .i64 0 ∧ pv = .int .i32 46 ∧ ch = .int .u8 49 ∧ di = .int .u64 0 ∧ i = .int .i64 0 ∧ RdAt wr R t1e1000 1 ∧ Keep (fun k => k = R) w wr) ∨ (co = .int .i64 1 ∧ pv = .int .i32 48 ∧ ch = .int .u8 101 ∧ di = .int .u64 1 ∧ i = .int .i64 1 ∧ RdAt wr R t1e1000 2 ∧ Keep (fun k => k = R) w wr))) (fun _ _ _ _ _ _ _ _ i _ _ => 1 - (intOf i).toNat)
  case atStart => exact ⟨rfl, rfl, rfl, rfl, rfl, .inl ⟨rfl, rfl, rfl, rfl, rfl, h1, k1⟩⟩
  case round =>
    obtain ⟨rfl, rfl, rfl, rfl, rfl, ⟨rfl, rfl, rfl, rfl, rfl, hr, hk⟩ | ⟨rfl, rfl, rfl, rfl, rfl, hr, hk⟩⟩ := hrel
    · go_wp2_with fail
      refine (readByte_at _ R t1e1000 1 101 (by decide) (by decide) (by decide) hr).mono ?_
      rintro e w3 ⟨rfl, h3, k3⟩
      go_wp2
      go_roundw
      case rel => exact ⟨rfl, rfl, rfl, rfl, rfl, .inr ⟨rfl, rfl, rfl, rfl, rfl, h3, hk.trans k3⟩⟩
      case measure => simp [intOf]
    · go_wp2_with fail
      refine (unreadByte_ok _ R t1e1000 1 (by decide) (by decide) hr).mono ?_
      rintro e w3 ⟨rfl, h3, k3⟩
      have he3 := keep_cell (hk.trans k3) he (Ne.symm hR)
      have qe := nil_ne w3 p
      go_wp2_with fail
      refine (pow_run _).mono ?_
      rintro e w4 ⟨rfl, rfl⟩
      go_wp2_with fail
      refine (mulAddWW_nil _ 10 1 (by decide)).mono ?_
      rintro e w5 ⟨N, rfl, hN, hd, hk5⟩
      go_wp2
      exact bodyPost_ret (v := .tuple #[.slice (some ⟨N, 0, none⟩) 1 1, .int .i64 10, .int .i64 1, .nilIface]) (by simp [results, Tryz.results126, go_sem]) rfl ⟨N, rfl, Nat.le_trans (hk.trans k3).size hN, hd, h3.keep (S := fun _ => False) (keep_of_below _ hk5) (fun h => h), (hk.trans k3).trans (keep_of_below _ hk5)⟩
end Go.Proofs.YticjhbklcpoonaaGreatDoor
