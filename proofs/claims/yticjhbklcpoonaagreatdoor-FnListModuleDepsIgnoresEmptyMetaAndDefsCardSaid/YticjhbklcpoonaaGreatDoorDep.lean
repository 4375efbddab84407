/- listModuleDeps: a list of imports, each with no metadata or with empty metadata. -/
import Derived.Test.YticjhbklcpoonaaGreatDoorPre
namespace Go.Proofs.YticjhbklcpoonaaGreatDoor
open Go.RowKit Go.Gq
set_option maxRecDepth 100000
abbrev kRel : ByteArray := ⟨#[114, 101, 108, 112, 97, 116, 104]⟩
abbrev kAs : ByteArray := ⟨#[97, 115]⟩
abbrev kDat : ByteArray := ⟨#[105, 115, 95, 100, 97, 116, 97]⟩
abbrev bI (b : Bool) : Value := .iface 4 (.bool b)
abbrev stI (s : ByteArray) : Value := .iface 9 (.string s)
abbrev mpI (b : Nat) : Value := .iface 113 (.map (some b))
def relP (P C : ByteArray) : ByteArray := if P.toList.isEmpty then C else P
/-- What becomes of an import. -/
def depL (P A C : ByteArray) : List (ByteArray × Value) :=
  aput kDat (bI (hpB A)) (if A.toList.isEmpty then aput kRel (stI (relP P C)) [] else aput kAs (stI (tpS A)) (aput kRel (stI (relP P C)) []))
/-- An import. -/
def ImpIs (w : World) (p : Nat) (P A C : ByteArray) : Prop :=
  w.cell? ⟨p, 0, none⟩ = some (.string P) ∧ w.cell? ⟨p, 1, none⟩ = some (.string A) ∧ w.cell? ⟨p, 2, none⟩ = some (.string C) ∧
    (w.cell? ⟨p, 3, none⟩ = some (.pointer none) ∨ ∃ m, w.cell? ⟨p, 3, none⟩ = some (.pointer (some ⟨m, 0, none⟩)) ∧ w.cell? ⟨m, 0, none⟩ = some (.slice none 0 0))
theorem ImpIs.kept {w w' : World} {p : Nat} {P A C : ByteArray} (h : ImpIs w p P A C) (k : Kept w w') : ImpIs w' p P A C := by
  obtain ⟨h0, h1, h2, h3⟩ := h
  refine ⟨kept_cell k h0, kept_cell k h1, kept_cell k h2, ?_⟩
  rcases h3 with h | ⟨m, h, h'⟩
  · exact .inl (kept_cell k h)
  · exact .inr ⟨m, kept_cell k h, kept_cell k h'⟩
def DepsAre (w0 wr : World) (rb n k : Nat) (D : Nat → List (ByteArray × Value)) : Prop :=
  ∃ mm : Nat → Nat, wr.rowIs rb 20 n (fun j => if j < k then mpI (mm j) else .nilIface) ∧ (∀ j, j < k → wr.MapIs strKey (mm j) (D j)) ∧ Kept w0 wr
theorem deps_step {w0 wr W4 : World} {rb n k b : Nat} {D : Nat → List (ByteArray × Value)} (h : DepsAre w0 wr rb n k D) (hkp : Kept wr W4) (hm : W4.MapIs strKey b (D k)) (h0 : w0.heap.size ≤ rb) :
    DepsAre w0 (W4.setCell ⟨rb, k, none⟩ (mpI b)) rb n (k + 1) D := by
  obtain ⟨mm, hr, hms, hk⟩ := h
  refine ⟨fun j => if j = k then b else mm j, ?_, ?_, ?_⟩
  · refine ((rowIs_kept hr hkp).set k (mpI b)).congr fun j hj => ?_
    by_cases e : j = k
    · subst e; simp
    · simp only [if_neg e]
      by_cases e2 : j < k
      · rw [if_pos e2, if_pos (by omega)]
      · rw [if_neg e2, if_neg (by omega)]
  · intro j hj
    refine mapIs_setCell (K := strKey) ?_ _ _
    by_cases e : j = k
    · subst e; simpa using hm
    · simp only [if_neg e]
      have h1 := hms j (by omega)
      exact mapIs_of_block strKey h1 (hkp.block _ (mapIs_lt strKey h1))
  · exact (hk.trans hkp).setCell (p := ⟨rb, k, none⟩) h0 _
set_option maxHeartbeats 8000000 in
theorem listDeps_any (q : Nat) (ia : Option Addr) (n ic : Nat) (ps : Nat → Nat) (P A C : Nat → ByteArray) (w : World) (hn : n ≤ 65536) (hq : w.cell? ⟨q, 1, none⟩ = some (.slice ia n ic)) (hi : Rd w ia n (fun j => .pointer (some ⟨ps j, 0, none⟩))) (him : ∀ j, j < n → ImpIs w (ps j) (P j) (A j) (C j)) (hs : ∀ j, j < n → (A j).size ≤ 9223372036854775807) :
    Calls Tryz.prog 46 #[.pointer (some ⟨q, 0, none⟩)] w fun e w' => ∃ rb, e = .returned (.slice (some ⟨rb, 0, none⟩) n n) ∧ DepsAre w w' rb n n (fun j => depL (P j) (A j) (C j)) := by
  have H0 := Lib.hid (And.intro hi (And.intro him hs))
  have hmk := make_gen 62 20 Tryz.underlying62 tixAny rfl (by omega) n n (Nat.le_refl _) (by omega)
  have hq2 := cell_up2 hq (o := .cells (madeCells #[.nilIface] n) 20)
  clear hi him hs
  go_enter Tryz.func46, Tryz.ntmps46
  go_wp2
  obtain ⟨W, HW⟩ : ∃ W : World, W = w.alloc (.cells (madeCells #[.nilIface] n) 20) := ⟨_, rfl⟩
  have HI : Hid (DepsAre w W w.heap.size n 0 (fun j => depL (P j) (A j) (C j))) := by
    rw [HW]
    exact ⟨fun _ => 0, by simpa using World.rowIs_made w .nilIface n 20, fun j hj => absurd hj (Nat.not_lt_zero _), kept_alloc _ _⟩
  rw [← HW]
  clear HW hmk hq2
  go_loopw [19] (fun i wr => ∃ k : Nat, k ≤ n ∧ i = .int .i64 k ∧ Hid (DepsAre w wr w.heap.size n k (fun j => depL (P j) (A j) (C j)))) (fun i _ => n - (intOf i).toNat)
  case atStart => exact ⟨0, Nat.zero_le _, rfl, HI.out⟩
  case round =>
  obtain ⟨k, hk, rfl, HR⟩ := hrel
  by_cases hlt : k < n
  · obtain ⟨mm, hrow, hms, hkp⟩ := HR.out
    obtain ⟨hi, him, hs⟩ := H0.out
    obtain ⟨b1, o1, e1, c1⟩ := (hi.kept hkp).at hlt
    subst e1
    have hI := (him k hlt).kept hkp
    have hA := hs k hlt
    obtain ⟨p, hp⟩ : ∃ p, p = ps k := ⟨_, rfl⟩
    obtain ⟨xP, eP⟩ : ∃ x, x = P k := ⟨_, rfl⟩
    obtain ⟨xA, eA⟩ : ∃ x, x = A k := ⟨_, rfl⟩
    obtain ⟨xC, eC⟩ : ∃ x, x = C k := ⟨_, rfl⟩
    rw [← hp] at hI c1
    rw [← eP, ← eA, ← eC] at hI
    rw [← eA] at hA
    have HEQ := Lib.hid (And.intro eP (And.intro eA eC))
    obtain ⟨b, hb⟩ : ∃ b, b = wr.heap.size := ⟨_, rfl⟩
    obtain ⟨W1, hW1⟩ : ∃ W1, W1 = wr.alloc (.map #[] 0) := ⟨_, rfl⟩
    have hmm : (Instr.makeMap 113 none).run Tryz.prog wr = .ok (.map (some b)) W1 := by rw [hb, hW1]; rfl
    have m1 : W1.MapIs strKey b [] := by rw [hb, hW1]; exact mapIs_new strKey wr
    have k1 : Kept wr W1 := by rw [hW1]; exact kept_alloc _ _
    obtain ⟨W2, hu2, m2, ho2⟩ := run_mapUpdate_assoc strKey (P := Tryz.prog) Tryz.underlying113 Tryz.underlying9 W1 m1 kRel (stI (relP xP xC))
    have k2 : Kept wr W2 := Below.trans k1 (ho2.below (B := wr.heap.size) (by omega))
    have HS := Lib.hid HR.out
    have I1 := hI.kept k1
    have I2 := hI.kept k2
    cases hAE : xA.toList.isEmpty with
    | true =>
      obtain ⟨W4, hu4, m4, ho4⟩ := run_mapUpdate_assoc strKey (P := Tryz.prog) Tryz.underlying113 Tryz.underlying9 W2 m2 kDat (bI (hpB xA))
      have k4 : Kept wr W4 := Below.trans k2 (ho4.below (B := wr.heap.size) (by omega))
      have hm4 : W4.MapIs strKey b (depL (P k) (A k) (C k)) := by
        rw [← eP, ← eA, ← eC]; unfold depL; rw [hAE]; exact m4
      have hstep := Lib.hid (deps_step (rb := w.heap.size) HS.out k4 hm4 (Nat.le_refl _))
      have hrow4 := rowIs_kept hrow k4
      have hd := hrow4.cell hlt
      have hz := hrow4.frozen k
      simp only [Nat.lt_irrefl, if_false] at hd
      obtain ⟨p0, p1, p2, p3⟩ := hI
      obtain ⟨i10, _, i12, _⟩ := I1
      obtain ⟨_, i21, _, _⟩ := I2
      have HP1 := Lib.hid (strHasPrefix_any xA)
      have HT1 := Lib.hid (strTrimPrefix_any xA)
      have HB1 := Lib.hid hb
      have HW1 := Lib.hid hW1
      have hu2' : (Instr.mapUpdate 113 (.map (some b)) (.string kRel) (stI (relP xP xC))).run Tryz.prog W1 = .ok () W2 := hu2
      have hu4' : (Instr.mapUpdate 113 (.map (some b)) (.string kDat) (bI (hpB xA))).run Tryz.prog W2 = .ok () W4 := hu4
      obtain ⟨xR, hR⟩ : ∃ x, x = relP xP xC := ⟨_, rfl⟩
      rw [← hR] at hu2'
      have HRR := Lib.hid hR
      clear hu2 hu4 m1 m2 m4 ho2 ho4 k1 k2 k4 hm4 hrow hrow4 hms hkp HR HI hi him hs eP eA eC hR hb hW1 hp
      cases hPE : xP.toList.isEmpty with
      | true =>
        have hxR : xR = xC := by rw [HRR.out]; unfold relP; rw [hPE]; rfl
        subst hxR
        rcases p3 with p3 | ⟨m, p3, p4⟩
        · go_wp2_with fail
          refine (toValue_nil wr).mono ?_
          rintro e w1 ⟨rfl, rfl⟩
          go_wp2_with fail
          refine (HP1.out _ hA).mono ?_
          rintro e w1 ⟨rfl, rfl⟩
          go_wp2
          go_roundw
          case rel => exact ⟨k + 1, by omega, by go_num, hstep.out⟩
          case measure => simp [intOf]; omega
        · clear hmm
          go_wp2_with fail
          refine (toValue_empty m wr p4).mono ?_
          rintro e w1 ⟨rfl, rfl⟩
          rw [← HW1.out, ← HB1.out]
          go_wp2_with fail
          refine (HP1.out _ hA).mono ?_
          rintro e w1 ⟨rfl, rfl⟩
          go_wp2
          go_roundw
          case rel => exact ⟨k + 1, by omega, by go_num, hstep.out⟩
          case measure => simp [intOf]; omega
      | false =>
        have hxR : xR = xP := by rw [HRR.out]; unfold relP; rw [hPE]; rfl
        subst hxR
        rcases p3 with p3 | ⟨m, p3, p4⟩
        · go_wp2_with fail
          refine (toValue_nil wr).mono ?_
          rintro e w1 ⟨rfl, rfl⟩
          go_wp2_with fail
          refine (HP1.out _ hA).mono ?_
          rintro e w1 ⟨rfl, rfl⟩
          go_wp2
          go_roundw
          case rel => exact ⟨k + 1, by omega, by go_num, hstep.out⟩
          case measure => simp [intOf]; omega
        · clear hmm
          go_wp2_with fail
          refine (toValue_empty m wr p4).mono ?_
          rintro e w1 ⟨rfl, rfl⟩
          rw [← HW1.out, ← HB1.out]
          go_wp2_with fail
          refine (HP1.out _ hA).mono ?_
          rintro e w1 ⟨rfl, rfl⟩
          go_wp2
          go_roundw
          case rel => exact ⟨k + 1, by omega, by go_num, hstep.out⟩
          case measure => simp [intOf]; omega
    | false =>
      obtain ⟨W3, hu3, m3, ho3⟩ := run_mapUpdate_assoc strKey (P := Tryz.prog) Tryz.underlying113 Tryz.underlying9 W2 m2 kAs (stI (tpS xA))
      have k3 : Kept wr W3 := Below.trans k2 (ho3.below (B := wr.heap.size) (by omega))
      have I3 := hI.kept k3
      obtain ⟨W4, hu4, m4, ho4⟩ := run_mapUpdate_assoc strKey (P := Tryz.prog) Tryz.underlying113 Tryz.underlying9 W3 m3 kDat (bI (hpB xA))
      have k4 : Kept wr W4 := Below.trans k3 (ho4.below (B := wr.heap.size) (by omega))
      have hm4 : W4.MapIs strKey b (depL (P k) (A k) (C k)) := by
        rw [← eP, ← eA, ← eC]; unfold depL; rw [hAE]; exact m4
      have hstep := Lib.hid (deps_step (rb := w.heap.size) HS.out k4 hm4 (Nat.le_refl _))
      have hrow4 := rowIs_kept hrow k4
      have hd := hrow4.cell hlt
      have hz := hrow4.frozen k
      simp only [Nat.lt_irrefl, if_false] at hd
      obtain ⟨p0, p1, p2, p3⟩ := hI
      obtain ⟨i10, _, i12, _⟩ := I1
      obtain ⟨_, i21, _, _⟩ := I2
      obtain ⟨_, i31, _, _⟩ := I3
      have HP1 := Lib.hid (strHasPrefix_any xA)
      have HT1 := Lib.hid (strTrimPrefix_any xA)
      have HB1 := Lib.hid hb
      have HW1 := Lib.hid hW1
      have hu2' : (Instr.mapUpdate 113 (.map (some b)) (.string kRel) (stI (relP xP xC))).run Tryz.prog W1 = .ok () W2 := hu2
      have hu4' : (Instr.mapUpdate 113 (.map (some b)) (.string kDat) (bI (hpB xA))).run Tryz.prog W3 = .ok () W4 := hu4
      have hu3' : (Instr.mapUpdate 113 (.map (some b)) (.string kAs) (stI (tpS xA))).run Tryz.prog W2 = .ok () W3 := hu3
      obtain ⟨xR, hR⟩ : ∃ x, x = relP xP xC := ⟨_, rfl⟩
      rw [← hR] at hu2'
      have HRR := Lib.hid hR
      clear hu2 hu4 hu3 m1 m2 m3 m4 ho2 ho3 ho4 k1 k2 k3 k4 hm4 hrow hrow4 hms hkp HR HI hi him hs eP eA eC hR hb hW1 hp
      cases hPE : xP.toList.isEmpty with
      | true =>
        have hxR : xR = xC := by rw [HRR.out]; unfold relP; rw [hPE]; rfl
        subst hxR
        rcases p3 with p3 | ⟨m, p3, p4⟩
        · go_wp2_with fail
          refine (toValue_nil wr).mono ?_
          rintro e w1 ⟨rfl, rfl⟩
          go_wp2_with fail
          refine (HT1.out _ hA).mono ?_
          rintro e w1 ⟨rfl, rfl⟩
          go_wp2_with fail
          refine (HP1.out _ hA).mono ?_
          rintro e w1 ⟨rfl, rfl⟩
          go_wp2
          go_roundw
          case rel => exact ⟨k + 1, by omega, by go_num, hstep.out⟩
          case measure => simp [intOf]; omega
        · clear hmm
          go_wp2_with fail
          refine (toValue_empty m wr p4).mono ?_
          rintro e w1 ⟨rfl, rfl⟩
          rw [← HW1.out, ← HB1.out]
          go_wp2_with fail
          refine (HT1.out _ hA).mono ?_
          rintro e w1 ⟨rfl, rfl⟩
          go_wp2_with fail
          refine (HP1.out _ hA).mono ?_
          rintro e w1 ⟨rfl, rfl⟩
          go_wp2
          go_roundw
          case rel => exact ⟨k + 1, by omega, by go_num, hstep.out⟩
          case measure => simp [intOf]; omega
      | false =>
        have hxR : xR = xP := by rw [HRR.out]; unfold relP; rw [hPE]; rfl
        subst hxR
        rcases p3 with p3 | ⟨m, p3, p4⟩
        · go_wp2_with fail
          refine (toValue_nil wr).mono ?_
          rintro e w1 ⟨rfl, rfl⟩
          go_wp2_with fail
          refine (HT1.out _ hA).mono ?_
          rintro e w1 ⟨rfl, rfl⟩
          go_wp2_with fail
          refine (HP1.out _ hA).mono ?_
          rintro e w1 ⟨rfl, rfl⟩
          go_wp2
          go_roundw
          case rel => exact ⟨k + 1, by omega, by go_num, hstep.out⟩
          case measure => simp [intOf]; omega
        · clear hmm
          go_wp2_with fail
          refine (toValue_empty m wr p4).mono ?_
          rintro e w1 ⟨rfl, rfl⟩
          rw [← HW1.out, ← HB1.out]
          go_wp2_with fail
          refine (HT1.out _ hA).mono ?_
          rintro e w1 ⟨rfl, rfl⟩
          go_wp2_with fail
          refine (HP1.out _ hA).mono ?_
          rintro e w1 ⟨rfl, rfl⟩
          go_wp2
          go_roundw
          case rel => exact ⟨k + 1, by omega, by go_num, hstep.out⟩
          case measure => simp [intOf]; omega
  · obtain rfl : k = n := by omega
    go_wp2
    go_ret
    exact ⟨_, rfl, HR.out⟩
end Go.Proofs.YticjhbklcpoonaaGreatDoor
