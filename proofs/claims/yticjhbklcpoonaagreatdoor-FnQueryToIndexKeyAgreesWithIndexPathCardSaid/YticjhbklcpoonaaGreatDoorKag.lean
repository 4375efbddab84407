/- The walk of FnQueryToIndexKeyAgreesWithIndexPath. -/
import Derived.Test.YticjhbklcpoonaaGreatDoorQki
import Derived.Test.YticjhbklcpoonaaGreatDoorKlw
namespace Go.Proofs.YticjhbklcpoonaaGreatDoor
open Go.RowKit Go.Gq
set_option maxRecDepth 100000
def BytesX (text : ByteArray) (n1 : Nat) (w : World) (e : Ending) (w' : World) : Prop := ∃ b, e = .returned (.bool b) ∧ (b = true → text.size ≤ 1048576 ∧ n1 ≤ 1048576) ∧ w = w'
set_option maxHeartbeats 2000000 in
theorem zzBytes_FnQueryToIndexKeyAgreesWithIndexPath_any (typ lit n : Int) (text : ByteArray) (interp neg binary : Bool) (a1 : Option Addr) (n1 c1 : Nat) (s1 : Nat → ByteArray) (w : World) (h1 : Rd w a1 n1 (fun i => .string (s1 i))) (m0 : text.size ≤ 9223372036854775807) (m1 : n1 ≤ 9223372036854775807) (k1 : ∀ i, i < n1 → (s1 i).size ≤ 9223372036854775807) :
    Calls Tryz.prog 30 #[.int .u8 typ, .int .u8 lit, .string text, .int .u16 n, .bool interp, .bool neg, .bool binary, .slice a1 n1 c1] w (BytesX text n1 w) := by
  have H1 := Lib.hid h1
  have H1S := Lib.hid k1
  clear h1 k1
  by_cases g0 : text.size ≤ 1048576
  rotate_left
  · go_enter Tryz.func30, Tryz.ntmps30
    go_wp2
    go_ret
    exact ⟨false, rfl, (fun h => by cases h), rfl⟩
  by_cases g1 : n1 ≤ 1048576
  rotate_left
  · go_enter Tryz.func30, Tryz.ntmps30
    go_wp2
    go_ret
    exact ⟨false, rfl, (fun h => by cases h), rfl⟩
  by_cases g2 : (text.size : Int) + (n1 : Int) ≤ 1048576
  rotate_left
  · go_enter Tryz.func30, Tryz.ntmps30
    go_wp2
    go_ret
    exact ⟨false, rfl, (fun h => by cases h), rfl⟩
  go_enter Tryz.func30, Tryz.ntmps30
  go_wp2
  go_loop [17, 18] (fun t i => ∃ (k : Nat) (z : Int), k ≤ n1 ∧ i = .int .i64 k ∧ t = .int .i64 z ∧ 0 ≤ z ∧ z ≤ 1048576) (fun _ i => n1 - (intOf i).toNat)
  case atStart => exact ⟨0, _, Nat.zero_le _, rfl, rfl, by omega, by omega⟩
  case round =>
    obtain ⟨k, z, hk, rfl, rfl, hz0, hz1⟩ := hrel
    by_cases hlt : k < n1
    · obtain ⟨b, off, e1, hc⟩ := H1.out.at hlt
      subst e1
      obtain ⟨x, hx⟩ : ∃ x, x = s1 k := ⟨_, rfl⟩
      have hsz : x.size ≤ 9223372036854775807 := by rw [hx]; exact H1S.out k hlt
      rw [← hx] at hc
      clear hx
      by_cases q1 : x.size ≤ 1048576
      rotate_left
      · go_wp2
        go_ret
        exact ⟨false, rfl, (fun h => by cases h), rfl⟩
      by_cases q2 : z + x.size ≤ 1048576
      rotate_left
      · go_wp2
        go_ret
        exact ⟨false, rfl, (fun h => by cases h), rfl⟩
      go_wp2
      go_round
      case rel => exact ⟨k + 1, z + x.size, by omega, by go_num, rfl, by omega, by omega⟩
      case measure => simp [intOf]; omega
    have hk2 : (n1 : Int) ≤ (k : Int) := by omega
    go_wp2
    go_ret
    exact ⟨true, rfl, (fun _ => ⟨g0, g1⟩), rfl⟩
def KOut.isN : KOut → Bool
  | .none => true
  | _ => false
theorem tup_eq (K : KOut) : K.tup = .tuple #[.bool K.isN, .string K.txt, .bool K.isS, .int .i64 K.iv, .bool K.isI] := by cases K <;> rfl
set_option maxHeartbeats 16000000 in
theorem FnQueryToIndexKeyAgreesWithIndexPath_walk (typ lit n : Int) (text : ByteArray) (interp neg binary : Bool) (a1 : Option Addr) (n1 c1 : Nat) (s1 : Nat → ByteArray) (w : World) (ht : 0 ≤ typ ∧ typ < 256) (hl : 0 ≤ lit ∧ lit < 256) (hn : 0 ≤ n ∧ n < 65536) (m0 : text.size ≤ 9223372036854775807) (h1 : Rd w a1 n1 (fun i => .string (s1 i))) (m1 : n1 ≤ 9223372036854775807) (k1 : ∀ i, i < n1 → (s1 i).size ≤ 9223372036854775807) (G : Gl w) :
    Calls Tryz.prog 7 #[.int .u8 typ, .int .u8 lit, .string text, .int .u16 n, .bool interp, .bool neg, .bool binary, .slice a1 n1 c1] w (TrueKept w) := by
  obtain ⟨typ, rfl⟩ := Int.eq_ofNat_of_zero_le ht.1
  obtain ⟨lit, rfl⟩ := Int.eq_ofNat_of_zero_le hl.1
  obtain ⟨n, rfl⟩ := Int.eq_ofNat_of_zero_le hn.1
  have HKS := Lib.hid (fun w => zzKeyStart_ok typ lit n text interp neg binary (by omega) (by omega) (by omega) w)
  have HG := Lib.hid G
  have H1 := Lib.hid h1
  have HZ := zzBytes_FnQueryToIndexKeyAgreesWithIndexPath_any typ lit n text interp neg binary a1 n1 c1 s1 w h1 m0 m1 k1
  clear G ht hl hn h1 k1
  go_enter Tryz.func7, Tryz.ntmps7
  go_wp2_with fail
  refine HZ.mono ?_
  rintro e w1 ⟨b, rfl, hb, rfl⟩
  clear HZ
  cases b with
  | false =>
    clear hb
    go_wp2
    go_ret
    exact ⟨rfl, Below.refl _ _⟩
  | true =>
  obtain ⟨g0, g1⟩ := hb rfl
  clear hb
  by_cases g2 : 65536 < n1
  · go_wp2
    go_ret
    exact ⟨rfl, Below.refl _ _⟩
  go_wp2_with fail
  refine (zzStrsBytes_any a1 n1 c1 s1 w H1.out m1).mono ?_
  rintro e w1 ⟨t1, rfl, rfl⟩
  by_cases g3 : (1048576 : Int) < wrap64 ((text.size : Int) + t1)
  · go_wp2
    go_ret
    exact ⟨rfl, Below.refl _ _⟩
  go_wp2_with fail
  clear g3
  refine (zzCloneStrs_rd a1 n1 c1 s1 w (by omega) H1.out).mono ?_
  rintro e w1 ⟨x1, xc1, rfl, hr, hk1⟩
  have RX1 := Lib.hid hr
  have K1 := Lib.hid hk1
  clear hr hk1 H1
  go_wp2_with fail
  refine (HKS.out w1).mono ?_
  rintro e w2 ⟨q, cl, wa, K, rfl, hA, _, hk2⟩
  have RX2 := Lib.hid (RX1.out.kept hk2)
  have K2 := Lib.hid (K1.out.trans hk2)
  have HA := Lib.hid hA
  clear HKS RX1 K1 hA hk2
  go_wp2_with fail
  refine (zzQk_ok (.pointer (some ⟨q, 0, none⟩)) K w2 (HA.out w2 (Below.refl _ _) (HG.out.kept K2.out))).mono ?_
  rintro e w3 ⟨rfl, hk3⟩
  have RX3 := Lib.hid (RX2.out.kept hk3)
  have K3 := Lib.hid (K2.out.trans hk3)
  have HA3 := Lib.hid (HA.out.kept hk3)
  clear RX2 K2 HA hk3
  obtain ⟨kn, kt, ks, ki, kz, hK⟩ : ∃ (kn : Bool) (kt : ByteArray) (ks : Bool) (ki : Int) (kz : Bool), kn = K.isN ∧ kt = K.txt ∧ ks = K.isS ∧ ki = K.iv ∧ kz = K.isI := ⟨_, _, _, _, _, rfl, rfl, rfl, rfl, rfl⟩
  rw [tup_eq K, ← hK.1, ← hK.2.1, ← hK.2.2.1, ← hK.2.2.2.1, ← hK.2.2.2.2]
  have HKT := Lib.hid hK
  clear hK
  go_wp2_with fail
  obtain ⟨W6, hW⟩ : ∃ W : World, W = ((w3.alloc (.cells #[.string ⟨#[]⟩, .pointer none, .pointer (some ⟨q, 0, none⟩), .pointer none, .bool false] 76)).alloc (.cells #[.int .i64 6, .pointer (some ⟨w3.heap.size, 0, none⟩), .pointer none, .pointer none, .pointer none, .string ⟨#[]⟩, .pointer none, .string ⟨#[]⟩, .pointer none, .pointer none, .pointer none, .pointer none, .pointer none, .pointer none, .string ⟨#[]⟩, .pointer none, .slice none 0 0] 88)).alloc (.cells #[.pointer none, .slice none 0 0, .slice none 0 0, .pointer (some ⟨w3.heap.size + 1, 0, none⟩), .pointer none, .pointer none, .slice none 0 0, .int .i64 0] 42) := ⟨_, rfl⟩
  have hk6 : Kept w3 W6 := by rw [hW]; exact (kept_alloc _ _).trans ((kept_alloc _ _).trans (kept_alloc _ _))
  have hz6 : W6.heap.size = w3.heap.size + 1 + 1 + 1 := by rw [hW]; simp
  have hP : PathAt W6 (w3.heap.size + 1 + 1) K := by
    have hA6 := HA3.out.kept hk6
    clear hk6
    subst hW
    refine path_at (t := w3.heap.size + 1) (i := w3.heap.size) (q := q) (by simp) ?_ ?_ ?_ ?_ ?_ ?_ ?_ ?_ hA6
    all_goals (first | exact cell_i _ _ _ _ _ _ (by simp) rfl | exact cell_o _ _ (cell_i _ _ _ _ _ _ (by simp) rfl) | exact cell_o _ _ (cell_o _ _ (cell_i _ _ _ _ _ _ (by simp) rfl)))
  have HP := Lib.hid hP
  rw [← hW]
  have K6 := Lib.hid (K3.out.trans hk6)
  have RX6 := Lib.hid (RX3.out.kept hk6)
  clear hk6 hz6 hW hP HA3 RX3 K3
  refine (ZZQueryToIndices_kout (w3.heap.size + 1 + 1) K x1 n1 xc1 s1 W6 HP.out (HG.out.kept K6.out) RX6.out (by omega)).mono ?_
  rintro e w7 ⟨hk7, hr⟩
  have K7 := Lib.hid (K6.out.trans hk7)
  have RX7 := Lib.hid (RX6.out.kept hk7)
  clear hk7 K6 RX6 HP
  rcases hr with ⟨hK, rfl⟩ | ⟨b, hK, rfl, hrd⟩
  · have e1 : kn = true := by rw [HKT.out.1, hK]; rfl
    subst e1
    clear hK
    go_wp2
    go_ret
    exact ⟨rfl, K7.out⟩
  have e1 : kn = false := by
    rw [HKT.out.1]
    cases K with
    | none => exact absurd rfl hK
    | _ => rfl
  subst e1
  rw [← HKT.out.2.2.1, ← HKT.out.2.2.2.1, ← HKT.out.2.2.2.2]
  obtain ⟨M, hM⟩ : ∃ M, M = n1 + 1 := ⟨_, rfl⟩
  rw [← hM] at hrd ⊢
  have q0 : ((M : Int) != (n1 : Int) + 1) = false := by simp; omega
  have HR := Lib.hid hrd
  have HM := Lib.hid hM
  have hm9 : M ≤ 1048577 := by omega
  have hb1 : (ks != ks) = false := by cases ks <;> rfl
  have hb2 : (kz != kz) = false := by cases kz <;> rfl
  clear hrd hM hK
  go_wp2_with fail
  go_loopw [31] (fun i wr => ∃ k r : Nat, k ≤ n1 ∧ i = .int .i64 k ∧ wr = w7.drewN r) (fun i _ => n1 - (intOf i).toNat)
  case atStart => exact ⟨0, 0, Nat.zero_le _, rfl, rfl⟩
  case round =>
  obtain ⟨k, r, hk, rfl, rfl⟩ := hrel
  by_cases hlt : k < n1
  · have hx := rd_at0 HR.out (k := k) (by have := HM.out; omega)
    obtain ⟨yb, yo, rfl, hy⟩ := RX7.out.at hlt
    simp only [if_pos hlt] at hx
    obtain ⟨x, hxx⟩ : ∃ x, x = s1 k := ⟨_, rfl⟩
    rw [← hxx] at hx hy
    have q4 : (0 : Int) ≤ (k : Int) := by omega
    have q5 : (k : Int) < (n1 : Int) := by omega
    have q6 : (k : Int) < (M : Int) := by have := HM.out; omega
    have q7 := beq_yes x
    clear hxx
    go_wp2_with fail
    go_quiet (fail)
    go_wp2
    go_roundw
    case rel => first | exact ⟨k + 1, _, by omega, by go_num, rfl⟩ | ((repeat apply Exists.intro); refine ⟨?_, rfl⟩; exact ⟨k + 1, _, by omega, by go_num, rfl⟩)
    case measure => simp [intOf]; omega
  obtain rfl : n1 = k := by omega
  have hk2 : (n1 : Int) ≤ (n1 : Int) := by omega
  have kd7 := kept_drewN w7 r
  have hx := rd_at0 (HR.out.kept kd7) (k := n1) (by have := HM.out; omega)
  simp only [Nat.lt_irrefl, if_false] at hx
  rw [← HKT.out.2.1] at hx
  have KY := Lib.hid (K7.out.trans kd7)
  clear hlt hk kd7 RX7 K7 HR
  revert KY hx
  generalize w7.drewN r = Y
  intro hx KY
  have qb := beq_yes kt
  have q5 : (n1 : Int) < (M : Int) := by have := HM.out; omega
  have q6 : (0 : Int) ≤ (n1 : Int) := by omega
  clear HKT
  cases ks <;> cases kz
  all_goals
    go_wp2
    go_ret
    exact ⟨rfl, KY.out⟩
end Go.Proofs.YticjhbklcpoonaaGreatDoor
