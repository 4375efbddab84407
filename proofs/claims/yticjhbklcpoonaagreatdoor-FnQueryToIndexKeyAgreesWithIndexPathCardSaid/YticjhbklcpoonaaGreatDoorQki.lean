/- The converter of toIndices at a path .[q]. -/
import Derived.Test.YticjhbklcpoonaaGreatDoorKio
namespace Go.Proofs.YticjhbklcpoonaaGreatDoor
open Go.RowKit Go.Gq
set_option maxRecDepth 100000
def KOut.isS : KOut → Bool
  | .str _ => true
  | _ => false
def KOut.txt : KOut → ByteArray
  | .str t => t
  | _ => ⟨#[]⟩
def KOut.iv : KOut → Int
  | .int z => z
  | _ => 0
def KOut.isI : KOut → Bool
  | .int _ => true
  | _ => false
/-- What the converter answers. -/
def QKAns (n : Nat) (p : Nat → ByteArray) (K : KOut) (w : World) (e : Ending) (w' : World) : Prop :=
  Kept w w' ∧ ((K = .none ∧ e = .returned (.tuple #[.bool true, ns, .bool false, .int .i64 0, .bool false])) ∨ ∃ b, K ≠ .none ∧ e = .returned (.tuple #[.bool false, .slice (some ⟨b, 0, none⟩) (n + 1) (n + 1), .bool K.isS, .int .i64 K.iv, .bool K.isI]) ∧
    Rd w' (some ⟨b, 0, none⟩) (n + 1) (fun i => .string (if i < n then p i else K.txt)))
section
attribute [local go_sem] Lib.run_eql_slice_nil
set_option maxHeartbeats 4000000 in
theorem ZZQueryToIndices_kout (q : Nat) (K : KOut) (a0 : Option Addr) (n c0 : Nat) (p : Nat → ByteArray) (w : World) (hq : PathAt w q K) (G : Gl w) (h0 : Rd w a0 n (fun i => .string (p i))) (hn : n ≤ 1048576) :
    Calls Tryz.prog 33 #[bq q, .slice a0 n c0] w (QKAns n p K w) := by
  have H0 := Lib.hid h0
  have HT := Lib.hid hq
  have HG := Lib.hid G
  have hmk := make_gen 62 20 Tryz.underlying62 tixAny rfl (by omega) n n (Nat.le_refl _) (by omega)
  clear h0 hq G
  go_enter Tryz.func33, Tryz.ntmps33
  go_wp2
  obtain ⟨W, HW⟩ : ∃ W : World, W = w.alloc (.cells (madeCells #[.nilIface] n) 20) := ⟨_, rfl⟩
  have HI : Hid (W.rowIs w.heap.size 20 n (fun _ => .nilIface) ∧ Kept w W) := by
    rw [HW]
    exact ⟨World.rowIs_made w _ n 20, kept_alloc _ _⟩
  rw [← HW]
  clear HW hmk
  go_loopw [10, 11, 22] (fun _ _ i wr => ∃ k : Nat, k ≤ n ∧ i = .int .i64 k ∧ Hid (wr.rowIs w.heap.size 20 n (fun j => if j < k then sv (p j) else .nilIface) ∧ Kept w wr)) (fun _ _ i _ => n - (intOf i).toNat)
  case atStart => exact ⟨0, Nat.zero_le _, rfl, by simpa using HI.out.1, HI.out.2⟩
  case round =>
  obtain ⟨k, hk, rfl, HR⟩ := hrel
  obtain ⟨hrow, hkp⟩ := HR.out
  by_cases hlt : k < n
  · obtain ⟨xb, xo, e1, hc0⟩ := (H0.out.kept hkp).at hlt
    subst e1
    obtain ⟨x, hx⟩ : ∃ x, x = p k := ⟨_, rfl⟩
    rw [← hx] at hc0
    have q4 : (0 : Int) ≤ (k : Int) := by omega
    have q5 : (k : Int) < (n : Int) := by omega
    have hd := hrow.cell hlt
    have hz := hrow.frozen k
    have hset := (hrow.set k (sv x)).congr (g := fun j => if j < k + 1 then sv (p j) else .nilIface) (fun j hj => by
      by_cases e : j = k
      · subst e; simp [hx]
      · simp only [if_neg e]; by_cases e2 : j < k
        · rw [if_pos e2, if_pos (by omega)]
        · rw [if_neg e2, if_neg (by omega)])
    have hkp2 := hkp.setCell (p := ⟨w.heap.size, k, none⟩) (Nat.le_refl _) (sv x)
    have HN := Lib.hid (And.intro hset hkp2)
    simp only [Nat.lt_irrefl, if_false] at hd
    clear hset hkp2 hrow hkp hx HR HI
    go_wp2
    go_roundw
    case rel => exact ⟨k + 1, by omega, by go_num, HN.out⟩
    case measure => simp [intOf]; omega
  obtain rfl : k = n := by omega
  have ho := own_of_row (B := w.heap.size) (hrow.congr (g := fun j => sv (p j)) fun i hi => by simp [hi]) (Nat.le_refl _) (by simp only [maxLen]; omega)
  have hlen : ((List.range k).map (fun j => sv (p j))).length = k := by simp
  have hcall := HT.out wr _ ((List.range k).map (fun j => sv (p j))) hkp (HG.out.kept hkp) (by rw [hlen]; exact ho) (by rw [hlen]; omega)
  have Hcall := Lib.hid hcall
  have HB := Lib.hid hkp
  have hkk : (k : Int) ≤ (k : Int) := Int.le_refl _
  have HL := Lib.hid hlen
  clear hlt hk hkp ho hlen hcall HR HI hrow
  go_wp2_with fail
  refine Hcall.out.mono ?_
  rintro e w3 ⟨hb3, hr⟩
  have HB3 : Hid (Kept w w3) := Below.trans HB.out hb3
  clear hb3
  rcases hr with ⟨h3, rfl⟩ | ⟨y, g3, cap3, h1, h2, rfl, h5⟩
  · have H3 := Lib.hid h3
    clear h3
    go_wp2
    refine bodyPost_ret (v := .tuple #[.bool true, .slice none 0 0, .bool false, .int .i64 0, .bool false]) (by simp [results, Tryz.results33, go_sem]) rfl ?_
    exact ⟨HB3.out, .inl ⟨H3.out, rfl⟩⟩
  rw [HL.out] at h5 ⊢
  have hrd0 : Rd w3 (some ⟨g3, 0, none⟩) (k + 1) (fun i => if i < k then sv (p i) else y) := (own_rd h5 rfl _ fun i hi => by
    by_cases h : i < k
    · rw [List.getElem?_append_left (by simpa using h)]; simp [h]
    · have : i = k := by omega
      subst this; simp).2
  obtain ⟨M, hM⟩ : ∃ M, M = k + 1 := ⟨_, rfl⟩
  rw [← hM] at hrd0
  rw [← hM]
  have HRD := Lib.hid hrd0
  have HM := Lib.hid hM
  have hM2 : M ≤ 4194304 := by omega
  have hM1 : 1 ≤ M := by omega
  have HY := Lib.hid (And.intro h1 h2)
  have hmk2 := make_gen 29 9 Tryz.underlying29 tixStr rfl (by omega) M M (Nat.le_refl _) (by omega)
  clear h1 h2 h5 hrd0 hM
  go_wp2
  obtain ⟨W, HW⟩ : ∃ W : World, W = w3.alloc (.cells (madeCells #[.string ⟨#[]⟩] M) 9) := ⟨_, rfl⟩
  have HI : Hid (W.rowIs w3.heap.size 9 M (fun _ => .string ⟨#[]⟩) ∧ Kept w3 W) := by
    rw [HW]
    exact ⟨World.rowIs_made w3 _ M 9, kept_alloc _ _⟩
  rw [← HW]
  clear HW hmk2
  go_loopw [6, 13, 14, 15, 16, 43] (fun al _ _ _ _ i wr => ∃ j : Nat, j ≤ M ∧ i = .int .i64 j ∧ al = .bool (decide (j ≤ k) || K.isS) ∧ Hid (wr.rowIs w3.heap.size 9 M (fun t => if t < j then .string (if t < k then p t else K.txt) else .string ⟨#[]⟩) ∧ Kept w3 wr)) (fun _ _ _ _ _ i _ => M - (intOf i).toNat)
  case atStart => exact ⟨0, Nat.zero_le _, rfl, by simp, by simpa using HI.out.1, HI.out.2⟩
  case round =>
  obtain ⟨j, hj, rfl, hal, HR⟩ := hrel
  obtain ⟨hrow, hkp⟩ := HR.out
  by_cases hlt : j < M
  · have hjk : j ≤ k := by have := HM.out; omega
    have hal2 : (decide (j ≤ k) || K.isS) = true := by simp [hjk]
    rw [hal2] at hal
    subst hal
    have hc0 := rd_at0 (HRD.out.kept hkp) hlt
    have q4 : (0 : Int) ≤ (j : Int) := by omega
    have q5 : (j : Int) < (M : Int) := by omega
    have hd := hrow.cell hlt
    have hz := hrow.frozen j
    have set2 := fun x : ByteArray => fun hx : x = (if j < k then p j else K.txt) => (hrow.set j (.string x)).congr (g := fun t => if t < j + 1 then .string (if t < k then p t else K.txt) else .string ⟨#[]⟩) (fun t ht => by
        by_cases e : t = j
        · rw [if_pos e, hx, if_pos (show t < j + 1 by omega), e]
        · simp only [if_neg e]; by_cases e2 : t < j
          · rw [if_pos e2, if_pos (show t < j + 1 by omega)]
          · rw [if_neg e2, if_neg (by omega)])
    have kp2 := fun x : ByteArray => hkp.setCell (p := ⟨w3.heap.size, j, none⟩) (Nat.le_refl _) (.string x)
    have HSet := Lib.hid (And.intro set2 kp2)
    simp only [Nat.lt_irrefl, if_false] at hd
    clear set2 kp2 hrow hkp HR HI hal2
    by_cases hjl : j < k
    · simp only [if_pos hjl] at hc0
      obtain ⟨x, hx⟩ : ∃ x, x = p j := ⟨_, rfl⟩
      rw [← hx] at hc0
      have HX : Hid (x = if j < k then p j else K.txt) := by rw [if_pos hjl]; exact hx
      clear hx
      go_wp2
      go_roundw
      case rel => exact ⟨j + 1, by omega, by go_num, by simp; omega, HSet.out.1 x HX.out, HSet.out.2 x⟩
      case measure => simp [intOf]; omega
    · simp only [if_neg hjl] at hc0
      have HJ : Hid (j = k) := Lib.hid (by omega)
      have HJ2 := Lib.hid hjl
      clear hjl hjk
      obtain ⟨h1, h2⟩ := HY.out
      clear HY
      cases K with
      | none => exact absurd rfl h1
      | str t =>
        have h2 : y = .iface 9 (.string t) := h2
        subst h2
        clear h1
        go_wp2
        go_roundw
        case rel => exact ⟨j + 1, by omega, by go_num, by simp [KOut.isS], HSet.out.1 t (by rw [if_neg HJ2.out]; rfl), HSet.out.2 t⟩
        case measure => simp [intOf]; omega
      | int z =>
        have h2 : y = nb z := h2
        subst h2
        clear h1
        go_wp2
        go_roundw
        case rel => exact ⟨j + 1, by omega, by go_num, by have := HJ.out; simp [KOut.isS]; omega, HSet.out.1 ⟨#[]⟩ (by rw [if_neg HJ2.out]; rfl), HSet.out.2 ⟨#[]⟩⟩
        case measure => simp [intOf]; omega
      | other =>
        clear h1
        rcases h2 with ⟨b, rfl⟩ | ⟨a, rfl⟩
        · go_wp2
          go_roundw
          case rel => exact ⟨j + 1, by omega, by go_num, by have := HJ.out; simp [KOut.isS]; omega, HSet.out.1 ⟨#[]⟩ (by rw [if_neg HJ2.out]; rfl), HSet.out.2 ⟨#[]⟩⟩
          case measure => simp [intOf]; omega
        · go_wp2
          go_roundw
          case rel => exact ⟨j + 1, by omega, by go_num, by have := HJ.out; simp [KOut.isS]; omega, HSet.out.1 ⟨#[]⟩ (by rw [if_neg HJ2.out]; rfl), HSet.out.2 ⟨#[]⟩⟩
          case measure => simp [intOf]; omega
  obtain rfl : j = M := by omega
  have hjj : (j : Int) ≤ (j : Int) := Int.le_refl _
  have hjk : ¬ j ≤ k := by have := HM.out; omega
  have hal2 : (decide (j ≤ k) || K.isS) = K.isS := by simp [hjk]
  rw [hal2] at hal
  subst hal
  have hc0 := rd_at0 (HRD.out.kept hkp) (show k < j by have := HM.out; omega)
  simp only [Nat.lt_irrefl, if_false] at hc0
  have q6 : (j : Int) - 1 = (k : Int) := by have := HM.out; omega
  have q7 : (0 : Int) < (j : Int) := by omega
  have q8 : (0 : Int) ≤ (k : Int) := by omega
  have q9 : (k : Int) < (j : Int) := by omega
  have HF := Lib.hid (And.intro hrow hkp)
  obtain ⟨h1, h2⟩ := HY.out
  clear hrow hkp HR HI hlt hj HY hal2 hjk
  have fin : Rd wr (some ⟨w3.heap.size, 0, none⟩) (k + 1) (fun i => .string (if i < k then p i else K.txt)) := by
    have := rd_row (HF.out.1.congr (g := fun i => .string (if i < k then p i else K.txt)) fun i hi => by simp [hi])
    rw [HM.out] at this
    exact this
  have FIN := Lib.hid (And.intro (HB3.out.trans HF.out.2) fin)
  have HM2 := Lib.hid HM.out
  clear fin
  cases K with
  | none => exact absurd rfl h1
  | str t =>
    have h2 : y = .iface 9 (.string t) := h2
    subst h2
    clear h1
    simp only [KOut.isS]
    go_wp2
    refine bodyPost_ret (v := .tuple #[.bool false, .slice (some ⟨w3.heap.size, 0, none⟩) j j, .bool true, .int .i64 0, .bool false]) (by simp [results, Tryz.results33, go_sem]) rfl ?_
    exact ⟨FIN.out.1, .inr ⟨w3.heap.size, by simp, by rw [HM2.out]; rfl, FIN.out.2⟩⟩
  | int z =>
    have h2 : y = nb z := h2
    subst h2
    clear h1
    simp only [KOut.isS]
    go_wp2
    refine bodyPost_ret (v := .tuple #[.bool false, .slice (some ⟨w3.heap.size, 0, none⟩) j j, .bool false, .int .i64 z, .bool true]) (by simp [results, Tryz.results33, go_sem]) rfl ?_
    exact ⟨FIN.out.1, .inr ⟨w3.heap.size, by simp, by rw [HM2.out]; rfl, FIN.out.2⟩⟩
  | other =>
    clear h1
    simp only [KOut.isS]
    rcases h2 with ⟨b, rfl⟩ | ⟨a, rfl⟩
    · go_wp2
      refine bodyPost_ret (v := .tuple #[.bool false, .slice (some ⟨w3.heap.size, 0, none⟩) j j, .bool false, .int .i64 0, .bool false]) (by simp [results, Tryz.results33, go_sem]) rfl ?_
      exact ⟨FIN.out.1, .inr ⟨w3.heap.size, by simp, by rw [HM2.out]; rfl, FIN.out.2⟩⟩
    · go_wp2
      refine bodyPost_ret (v := .tuple #[.bool false, .slice (some ⟨w3.heap.size, 0, none⟩) j j, .bool false, .int .i64 0, .bool false]) (by simp [results, Tryz.results33, go_sem]) rfl ?_
      exact ⟨FIN.out.1, .inr ⟨w3.heap.size, by simp, by rw [HM2.out]; rfl, FIN.out.2⟩⟩
end
end Go.Proofs.YticjhbklcpoonaaGreatDoor
