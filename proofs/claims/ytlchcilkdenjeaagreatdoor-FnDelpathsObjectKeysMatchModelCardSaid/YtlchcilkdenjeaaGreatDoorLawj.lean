/- The walk of FnDelpathsObjectKeysMatchModel. -/
import Derived.Test.YtlchcilkdenjeaaGreatDoorDelr
import Derived.Test.YtlchcilkdenjeaaGreatDoorLawi
namespace Go.Proofs.YtlchcilkdenjeaaGreatDoor
open Go.RowKit Go.Gq
set_option maxRecDepth 100000
set_option maxHeartbeats 1000000 in
theorem zzBytes_FnDelpathsObjectKeysMatchModel_any (a0 : Option Addr) (n0 c0 : Nat) (a1 : Option Addr) (n1 c1 : Nat) (s d : Nat → ByteArray) (w : World) (h0 : Rd w a0 n0 (fun i => .string (s i))) (h1 : Rd w a1 n1 (fun i => .string (d i))) (m0 : n0 ≤ 9223372036854775807) (m1 : n1 ≤ 9223372036854775807) (ms : ∀ i, i < n0 → (s i).size ≤ 9223372036854775807) (md : ∀ i, i < n1 → (d i).size ≤ 9223372036854775807) :
    Calls Tryz.prog 30 #[.slice a0 n0 c0, .slice a1 n1 c1] w (SomeBool w) := by
  have H0 := Lib.hid h0
  have H1 := Lib.hid h1
  have HS := Lib.hid ms
  have HD := Lib.hid md
  clear h0 h1 ms md
  by_cases g0 : n0 ≤ 1048576
  rotate_left
  · go_enter Tryz.func30, Tryz.ntmps30
    go_wp2
    go_ret
    exact ⟨false, rfl, rfl⟩
  go_enter Tryz.func30, Tryz.ntmps30
  go_wp2
  go_loop [5, 6] (fun t i => ∃ (k : Nat) (z : Int), k ≤ n0 ∧ i = .int .i64 k ∧ t = .int .i64 z ∧ 0 ≤ z ∧ z ≤ 1048576) (fun _ i => n0 - (intOf i).toNat)
  case atStart => exact ⟨0, _, Nat.zero_le _, rfl, rfl, by omega, by omega⟩
  case round =>
    obtain ⟨k, z, hk, rfl, rfl, hz0, hz1⟩ := hrel
    by_cases hlt : k < n0
    · obtain ⟨b, off, e1, hc⟩ := H0.out.at hlt
      subst e1
      obtain ⟨x, hx⟩ : ∃ x, x = s k := ⟨_, rfl⟩
      have hsz : x.size ≤ 9223372036854775807 := by rw [hx]; exact HS.out k hlt
      rw [← hx] at hc
      clear hx
      by_cases q1 : x.size ≤ 1048576
      rotate_left
      · go_wp2
        go_ret
        exact ⟨false, rfl, rfl⟩
      by_cases q2 : z + x.size ≤ 1048576
      rotate_left
      · go_wp2
        go_ret
        exact ⟨false, rfl, rfl⟩
      go_wp2
      go_round
      case rel => exact ⟨k + 1, z + x.size, by omega, by go_num, rfl, by omega, by omega⟩
      case measure => simp [intOf]; omega
    · by_cases g1 : n1 ≤ 1048576
      rotate_left
      · go_wp2
        go_ret
        exact ⟨false, rfl, rfl⟩
      by_cases g2 : z + n1 ≤ 1048576
      rotate_left
      · go_wp2
        go_ret
        exact ⟨false, rfl, rfl⟩
      go_wp2
      go_loop [5, 7] (fun t i => ∃ (k : Nat) (z : Int), k ≤ n1 ∧ i = .int .i64 k ∧ t = .int .i64 z ∧ 0 ≤ z ∧ z ≤ 1048576) (fun _ i => n1 - (intOf i).toNat)
      case atStart => exact ⟨0, _, Nat.zero_le _, rfl, rfl, by omega, by omega⟩
      case round =>
        obtain ⟨k, z, hk, rfl, rfl, hz0, hz1⟩ := hrel
        by_cases hlt : k < n1
        · obtain ⟨b, off, e1, hc⟩ := H1.out.at hlt
          subst e1
          obtain ⟨x, hx⟩ : ∃ x, x = d k := ⟨_, rfl⟩
          have hsz : x.size ≤ 9223372036854775807 := by rw [hx]; exact HD.out k hlt
          rw [← hx] at hc
          clear hx
          by_cases q1 : x.size ≤ 1048576
          rotate_left
          · go_wp2
            go_ret
            exact ⟨false, rfl, rfl⟩
          by_cases q2 : z + x.size ≤ 1048576
          rotate_left
          · go_wp2
            go_ret
            exact ⟨false, rfl, rfl⟩
          go_wp2
          go_round
          case rel => exact ⟨k + 1, z + x.size, by omega, by go_num, rfl, by omega, by omega⟩
          case measure => simp [intOf]; omega
        · go_wp2
          go_ret
          exact ⟨true, rfl, rfl⟩
abbrev fB : Nat → Value := fun _ => .bool true
theorem zeroBool (w : World) : (zeroValue 4).run Tryz.prog w = .ok (.bool false) w := by kernel_rfl
theorem make_boolH (n : Int) (W : World) : (Instr.makeMap 51 (some (.int .i64 n))).run Tryz.prog W = .ok (.map (some W.heap.size)) (W.alloc (.map #[] 0)) := by
  simp [Instr.makeMap, run_underlying Tryz.underlying51, asInt, asIntOf]
theorem lastI_lt (s : Nat → ByteArray) : ∀ (q : Nat) (x : ByteArray) (r : Nat), lastI s q x = some r → r < q ∧ x = s r
  | 0, x, r, h => by cases h
  | q + 1, x, r, h => by
    simp only [lastI] at h
    by_cases e : x = s q
    · rw [if_pos e] at h; injection h with h; subst h; exact ⟨by omega, e⟩
    · rw [if_neg e] at h; have := lastI_lt s q x r h; exact ⟨by omega, this.2⟩
/-- Is position i its key's last, and its key not named? -/
def keepB (s d : Nat → ByteArray) (n m : Nat) (i : Nat) : Bool := (lastI d m (s i)).isNone && (lastI s n (s i) == some i)
def cntB (s d : Nat → ByteArray) (n m p : Nat) : Nat := ((List.range p).filter (keepB s d n m)).length
theorem cntB_le (s d : Nat → ByteArray) (n m p : Nat) : cntB s d n m p ≤ p := by
  have := List.length_filter_le (keepB s d n m) (List.range p)
  simpa [cntB] using this
theorem cntB_yes {s d : Nat → ByteArray} {n m p : Nat} (h : keepB s d n m p = true) : cntB s d n m (p + 1) = cntB s d n m p + 1 := by simp [cntB, List.range_succ, h]
theorem cntB_no {s d : Nat → ByteArray} {n m p : Nat} (h : keepB s d n m p = false) : cntB s d n m (p + 1) = cntB s d n m p := by simp [cntB, List.range_succ, h]
theorem cntB_len (s d : Nat → ByteArray) (n m : Nat) (D : List (ByteArray × Value)) (hD : ND D) (hl : ∀ x, lkp x D = if (lastI d m x).isSome = true then none else lkp x (mapN fA s n)) : D.length = cntB s d n m n := by
  have hk : ∀ x, x ∈ D.map (·.1) ↔ x ∈ ((List.range n).filter (keepB s d n m)).map s := fun x => by
    rw [mem_keys, hl x, List.mem_map]
    constructor
    · intro h
      by_cases e : (lastI d m x).isSome = true
      · rw [if_pos e] at h; cases h
      · rw [if_neg e, lkp_mapN] at h
        cases hr : lastI s n x with
        | none => rw [hr] at h; cases h
        | some r =>
          obtain ⟨h1, h2⟩ := lastI_lt s n x r hr
          refine ⟨r, List.mem_filter.2 ⟨by simpa using h1, ?_⟩, h2.symm⟩
          unfold keepB
          rw [← h2, hr]
          cases hd : lastI d m x with
          | none => simp
          | some _ => rw [hd] at e; exact absurd rfl e
    · rintro ⟨r, hr, rfl⟩
      obtain ⟨h1, h2⟩ := List.mem_filter.1 hr
      unfold keepB at h2
      rw [Bool.and_eq_true] at h2
      obtain ⟨h3, h4⟩ := h2
      have h5 : lastI s n (s r) = some r := by simpa using h4
      cases hd : lastI d m (s r) with
      | none => rw [if_neg (by simp), lkp_mapN, h5]; rfl
      | some _ => rw [hd] at h3; cases h3
  have hnd : (((List.range n).filter (keepB s d n m)).map s).Nodup := by
    rw [List.nodup_iff_pairwise_ne, List.pairwise_map]
    refine ((List.nodup_iff_pairwise_ne.1 (List.nodup_range.filter _)).imp_of_mem ?_)
    intro a b ha hb hne e
    have ka := (List.mem_filter.1 ha).2
    have kb := (List.mem_filter.1 hb).2
    unfold keepB at ka kb
    rw [Bool.and_eq_true] at ka kb
    have k1 : lastI s n (s a) = some a := by simpa using ka.2
    have k2 : lastI s n (s b) = some b := by simpa using kb.2
    rw [e, k2] at k1
    injection k1 with k1
    exact hne k1.symm
  have l1 := nodup_len _ _ (show (D.map (·.1)).Nodup from hD) (fun x hx => (hk x).1 hx)
  have l2 := nodup_len _ _ hnd (fun x hx => (hk x).2 hx)
  simp only [List.length_map] at l1 l2
  unfold cntB
  omega
set_option maxHeartbeats 8000000 in
theorem FnDelpathsObjectKeysMatchModel_walk (a0 : Option Addr) (n0 c0 : Nat) (a1 : Option Addr) (n1 c1 : Nat) (s d : Nat → ByteArray) (w : World) (h0 : Rd w a0 n0 (fun i => .string (s i))) (h1 : Rd w a1 n1 (fun i => .string (d i))) (m0 : n0 ≤ 9223372036854775807) (m1 : n1 ≤ 9223372036854775807) (ms : ∀ i, i < n0 → (s i).size ≤ 9223372036854775807) (md : ∀ i, i < n1 → (d i).size ≤ 9223372036854775807) :
    Calls Tryz.prog 10 #[.slice a0 n0 c0, .slice a1 n1 c1] w (TrueKept w) := by
  have H0 := Lib.hid h0
  have H1 := Lib.hid h1
  have HS := Lib.hid ms
  have HE := Lib.hid md
  have hmo := make_objH n0
  have hmi := make_intH n0
  clear h0 h1 ms md
  go_enter Tryz.func10, Tryz.ntmps10
  go_wp2_with fail
  refine (zzBytes_FnDelpathsObjectKeysMatchModel_any a0 n0 c0 a1 n1 c1 s d w H0.out H1.out m0 m1 HS.out HE.out).mono ?_
  rintro e w1 ⟨b, rfl, rfl⟩
  cases b with
  | false =>
    go_wp2
    go_ret
    exact ⟨rfl, Below.refl _ _⟩
  | true =>
  by_cases g0 : 65536 < n0
  · go_wp2
    go_ret
    exact ⟨rfl, Below.refl _ _⟩
  by_cases g1 : 65536 < n1
  · go_wp2
    go_ret
    exact ⟨rfl, Below.refl _ _⟩
  go_wp2_with fail
  refine (zzStrBytes_any a0 n0 c0 s w H0.out m0).mono ?_
  rintro e w1 ⟨t0, rfl, rfl⟩
  go_wp2_with fail
  refine (zzStrBytes_any a1 n1 c1 d w H1.out m1).mono ?_
  rintro e w1 ⟨t1, rfl, rfl⟩
  by_cases g2 : 1048576 < wrap64 (t0 + t1)
  · go_wp2
    go_ret
    exact ⟨rfl, Below.refl _ _⟩
  go_wp2_with fail
  clear g2
  obtain ⟨W, hW⟩ : ∃ W : World, W = (w.alloc (.map #[] 0)).alloc (.map #[] 0) := ⟨_, rfl⟩
  have hk0 : Kept w W := by rw [hW]; exact (kept_alloc _ _).trans (kept_alloc _ _)
  have hmA : W.MapIs strKey w.heap.size [] := by rw [hW]; exact mapIs_alloc strKey (mapIs_new strKey w) _
  have hmB : W.MapIs strKey (w.heap.size + 1) [] := by
    rw [hW]
    have := mapIs_new strKey (w.alloc (.map #[] 0))
    simpa using this
  rw [← hW]
  have HI := Lib.hid (And.intro hk0 (And.intro hmA hmB))
  clear hk0 hmA hmB hW hmo hmi
  go_loopw [7] (fun i wr => ∃ q : Nat, q ≤ n0 ∧ i = .int .i64 q ∧ Hid (Kept w wr ∧ wr.MapIs strKey w.heap.size (mapN fA s q) ∧ wr.MapIs strKey (w.heap.size + 1) (mapN fI s q))) (fun i _ => n0 - (intOf i).toNat)
  case atStart => exact ⟨0, Nat.zero_le _, rfl, HI.out⟩
  case round =>
    obtain ⟨q, hq, rfl, HR⟩ := hrel
    by_cases hlt : q < n0
    · obtain ⟨hk, hA, hB⟩ := HR.out
      obtain ⟨xb, xo, e1, hc⟩ := (H0.out.kept hk).at hlt
      subst e1
      obtain ⟨x, hx⟩ : ∃ x, x = s q := ⟨_, rfl⟩
      obtain ⟨w2, hu1, hA2, ho2⟩ := run_mapUpdate_assoc strKey (P := Tryz.prog) Tryz.underlying41 Tryz.underlying9 wr hA x (ib q)
      have hB2 := mapIs_of_block strKey hB (ho2.block _ (by omega))
      have hk2 : Kept w w2 := Below.trans hk (ho2.below (Nat.le_refl _))
      obtain ⟨w3, hu2, hB3, ho3⟩ := run_mapUpdate_assoc strKey (P := Tryz.prog) Tryz.underlying50 Tryz.underlying9 w2 hB2 x (.int .i64 q)
      have hA3 := mapIs_of_block strKey hA2 (ho3.block _ (by omega))
      have hk3 : Kept w w3 := Below.trans hk2 (ho3.below (by omega))
      obtain ⟨xb2, xo2, e2, hc2⟩ := (H0.out.kept hk2).at hlt
      injection e2 with e2
      injection e2 with e2 e3
      subst e2 e3
      rw [← hx] at hc hc2
      have HN : Hid (Kept w w3 ∧ w3.MapIs strKey w.heap.size (mapN fA s (q + 1)) ∧ w3.MapIs strKey (w.heap.size + 1) (mapN fI s (q + 1))) := by
        refine ⟨hk3, ?_, ?_⟩
        · simp only [mapN, ← hx]; exact hA3
        · simp only [mapN, ← hx]; exact hB3
      simp only [strKey] at hu1 hu2
      clear hx hk hA hB hA2 ho2 hB2 hk2 hB3 ho3 hA3 hk3 HR
      go_wp2
      go_roundw
      case rel => exact ⟨q + 1, by omega, by go_num, HN.out⟩
      case measure => simp [intOf]; omega
    · obtain rfl : q = n0 := by omega
      rename World => Y
      have hmb := make_boolH n1
      have hmk := make_any n1 n1 (Nat.le_refl _) (by omega)
      clear HI
      go_wp2_with fail
      clear hmb hmk
      obtain ⟨hk, hA, hB⟩ := HR.out
      have hltA := mapIs_lt strKey hA
      have hltB := mapIs_lt strKey hB
      obtain ⟨V, hV⟩ : ∃ V : World, V = (Y.alloc (.map #[] 0)).alloc (.cells (madeCells #[.nilIface] n1) 20) := ⟨_, rfl⟩
      have hkV : Kept Y V := by rw [hV]; exact (kept_alloc _ _).trans (kept_alloc _ _)
      have hG : V.MapIs strKey Y.heap.size [] := by rw [hV]; exact mapIs_alloc strKey (mapIs_new strKey Y) _
      have hP : V.rowIs (Y.heap.size + 1) 20 n1 (fun _ => .nilIface) := by
        rw [hV]
        have := World.rowIs_made (Y.alloc (.map #[] 0)) .nilIface n1 20
        simpa using this
      have hszV : Y.heap.size + 1 < V.heap.size := hP.lt
      rw [← hV]
      have HI := Lib.hid (And.intro hkV (And.intro hG (And.intro hP hszV)))
      have HM := Lib.hid (And.intro hk (And.intro hA hB))
      clear hkV hG hP hszV hV hk hA hB HR
      go_loopw [10] (fun i wr => ∃ t : Nat, t ≤ n1 ∧ i = .int .i64 t ∧ Hid (∃ Q : Nat → Nat, wr.MapIs strKey Y.heap.size (mapN fB d t) ∧ wr.rowIs (Y.heap.size + 1) 20 n1 (fun j => if j < t then .iface 25 (.slice (some ⟨Q j, 0, none⟩) 1 1) else .nilIface) ∧ (∀ j, j < t → wr.cell? ⟨Q j, 0, none⟩ = some (.iface 9 (.string (d j))) ∧ Y.heap.size + 1 < Q j) ∧ Kept Y wr ∧ Y.heap.size + 1 < wr.heap.size)) (fun i _ => n1 - (intOf i).toNat)
      case atStart =>
        obtain ⟨hkV, hG, hP, hszV⟩ := HI.out
        exact ⟨0, Nat.zero_le _, rfl, fun _ => 0, hG, by simpa using hP, fun j hj => absurd hj (Nat.not_lt_zero _), hkV, hszV⟩
      case round =>
        obtain ⟨t, ht, rfl, HR⟩ := hrel
        by_cases hlt2 : t < n1
        · obtain ⟨Q, hG, hP, hQ, hkv, hsz⟩ := HR.out
          obtain ⟨xb, xo, e1, hc⟩ := ((H1.out.kept HM.out.1).kept hkv).at hlt2
          subst e1
          obtain ⟨x, hx⟩ : ∃ x, x = d t := ⟨_, rfl⟩
          obtain ⟨w2, hu1, hG2, ho2⟩ := run_mapUpdate_assoc strKey (P := Tryz.prog) Tryz.underlying51 Tryz.underlying9 wr hG x (.bool true)
          have hk2 : Kept Y w2 := Below.trans hkv (ho2.below (Nat.le_refl _))
          have hP2 := hP.of_block (ho2.block (Y.heap.size + 1) (by omega))
          have hQ2 : ∀ j, j < t → w2.cell? ⟨Q j, 0, none⟩ = some (.iface 9 (.string (d j))) ∧ Y.heap.size + 1 < Q j := fun j hj => ⟨by rw [ho2.cell (a := ⟨Q j, 0, none⟩) (by have := (hQ j hj).2; show Q j ≠ Y.heap.size; omega)]; exact (hQ j hj).1, (hQ j hj).2⟩
          have hsz2 : Y.heap.size + 1 < w2.heap.size := by rw [ho2.size]; exact hsz
          obtain ⟨xb2, xo2, e2, hc2⟩ := ((H1.out.kept HM.out.1).kept hk2).at hlt2
          injection e2 with e2
          injection e2 with e2 e3
          subst e2 e3
          have hka := kept_alloc w2 (.cells #[.iface 9 (.string x)] 20)
          have hrow1 := rowIs_kept hP2 hka
          have hd := hrow1.cell hlt2
          have hz := hrow1.frozen t
          have hset := (hrow1.set t (.iface 25 (.slice (some ⟨w2.heap.size, 0, none⟩) 1 1))).congr (g := fun j => if j < t + 1 then .iface 25 (.slice (some ⟨if j = t then w2.heap.size else Q j, 0, none⟩) 1 1) else .nilIface) (fun j hj => by
            by_cases e : j = t
            · subst e; simp
            · simp only [if_neg e]; by_cases e2 : j < t
              · rw [if_pos e2, if_pos (by omega)]
              · rw [if_neg e2, if_neg (by omega)])
          have hG3 : ((w2.alloc (.cells #[.iface 9 (.string x)] 20)).setCell ⟨Y.heap.size + 1, t, none⟩ (.iface 25 (.slice (some ⟨w2.heap.size, 0, none⟩) 1 1))).MapIs strKey Y.heap.size (mapN fB d (t + 1)) := by
            simp only [mapN, ← hx]
            exact mapIs_setCell strKey (mapIs_alloc strKey hG2 _) _ _
          have hnew : (w2.alloc (.cells #[.iface 9 (.string x)] 20)).rowIs w2.heap.size 20 1 (fun j => [Value.iface 9 (.string x)].getD j undef) := row_of (l := [_]) (heap_alloc_new w2 _)
          have hnc := (hnew.setOther (a := ⟨Y.heap.size + 1, t, none⟩) (show w2.heap.size ≠ Y.heap.size + 1 by omega) (.iface 25 (.slice (some ⟨w2.heap.size, 0, none⟩) 1 1))).cell (i := 0) (by omega)
          simp only [List.getD_cons_zero] at hnc
          have hkp2 := ((hk2.trans hka).setCell (p := ⟨Y.heap.size + 1, t, none⟩) (by show Y.heap.size ≤ Y.heap.size + 1; omega) (.iface 25 (.slice (some ⟨w2.heap.size, 0, none⟩) 1 1)))
          have HN : Hid (∃ Q : Nat → Nat, ((w2.alloc (.cells #[.iface 9 (.string x)] 20)).setCell ⟨Y.heap.size + 1, t, none⟩ (.iface 25 (.slice (some ⟨w2.heap.size, 0, none⟩) 1 1))).MapIs strKey Y.heap.size (mapN fB d (t + 1)) ∧ ((w2.alloc (.cells #[.iface 9 (.string x)] 20)).setCell ⟨Y.heap.size + 1, t, none⟩ (.iface 25 (.slice (some ⟨w2.heap.size, 0, none⟩) 1 1))).rowIs (Y.heap.size + 1) 20 n1 (fun j => if j < t + 1 then .iface 25 (.slice (some ⟨Q j, 0, none⟩) 1 1) else .nilIface) ∧ (∀ j, j < t + 1 → ((w2.alloc (.cells #[.iface 9 (.string x)] 20)).setCell ⟨Y.heap.size + 1, t, none⟩ (.iface 25 (.slice (some ⟨w2.heap.size, 0, none⟩) 1 1))).cell? ⟨Q j, 0, none⟩ = some (.iface 9 (.string (d j))) ∧ Y.heap.size + 1 < Q j) ∧ Kept Y ((w2.alloc (.cells #[.iface 9 (.string x)] 20)).setCell ⟨Y.heap.size + 1, t, none⟩ (.iface 25 (.slice (some ⟨w2.heap.size, 0, none⟩) 1 1))) ∧ Y.heap.size + 1 < ((w2.alloc (.cells #[.iface 9 (.string x)] 20)).setCell ⟨Y.heap.size + 1, t, none⟩ (.iface 25 (.slice (some ⟨w2.heap.size, 0, none⟩) 1 1))).heap.size) := by
            refine ⟨_, hG3, hset, fun j hj => ?_, hkp2, by simp; omega⟩
            by_cases e : j = t
            · subst e
              simp only [if_true]
              exact ⟨by rw [← hx]; exact hnc, hsz2⟩
            · simp only [if_neg e]
              obtain ⟨h1, h2⟩ := hQ2 j (by omega)
              refine ⟨?_, h2⟩
              exact (World.cell?_of_block (a := ⟨Q j, 0, none⟩) (Below.heap_setCell _ ⟨Y.heap.size + 1, t, none⟩ _ (Q j) (by show Q j ≠ Y.heap.size + 1; omega))).trans (kept_cell hka h1)
          rw [← hx] at hc hc2
          simp only [strKey] at hu1
          simp only [Nat.lt_irrefl, if_false] at hd
          clear hx hsz2 hG hP hQ hkv hsz hG2 ho2 hk2 hP2 hQ2 hka hrow1 hset hG3 hnew hnc hkp2 HR HI
          go_wp2
          go_roundw
          case rel => exact ⟨t + 1, by omega, by go_num, HN.out⟩
          case measure => simp [intOf]; omega
        · obtain rfl : t = n1 := by omega
          obtain ⟨Q, hG, hP, hQ, hkv, hsz⟩ := HR.out
          obtain ⟨hk, hA, hB⟩ := HM.out
          have hAv := mapIs_of_block strKey hA (hkv.block _ hltA)
          have hBv := mapIs_of_block strKey hB (hkv.block _ hltB)
          have hKeys : KeysIs wr (some ⟨Y.heap.size + 1, 0, none⟩) t d Q := ⟨rd_row (hP.congr fun i hi => by simp [hi]), fun j hj => (hQ j hj).1⟩
          have HF := Lib.hid (And.intro (hk.trans hkv) (And.intro hAv (And.intro hBv (And.intro hG hKeys))))
          clear hG hP hQ hkv hsz hk hA hB hAv hBv hKeys HR HI HM
          go_wp2_with fail
          refine (ZZfuncDelpaths_obj w.heap.size (mapN fA s q) (some ⟨Y.heap.size + 1, 0, none⟩) t t Q d wr HF.out.2.1 (by have := len_mapN fA s q; omega) (fun x u h => by
            rw [lkp_mapN] at h
            cases hr : lastI s q x with
            | none => rw [hr] at h; cases h
            | some r => rw [hr] at h; injection h with h; exact ⟨_, h.symm⟩) (by omega) HF.out.2.2.2.2).mono ?_
          rintro e w5 ⟨b5, D, rfl, hD, hlD, hk5⟩
          have k05 : Hid (Kept w w5) := Below.trans HF.out.1 (hk5.below HF.out.1.size (fun i e => by omega))
          have hB5 := mapIs_of_block strKey HF.out.2.2.1 (hk5.block _ (mapIs_lt strKey HF.out.2.2.1) (by omega))
          have hG5 := mapIs_of_block strKey HF.out.2.2.2.1 (hk5.block _ (mapIs_lt strKey HF.out.2.2.2.1) (by omega))
          have hcl := cntB_len s d q t D (mapIs_nd strKey hD) hlD
          have hln := fun ty => run_len_assoc strKey (P := Tryz.prog) Tryz.underlying41 w5 hD ty
          rw [hcl] at hln
          have HX := Lib.hid (And.intro hB5 (And.intro hG5 (And.intro hD hlD)))
          clear hcl hB5 hG5 hD hlD hk5 HF
          go_wp2_with fail
          go_loop [14, 15] (fun c i => ∃ p : Nat, p ≤ q ∧ i = .int .i64 p ∧ c = .int .i64 (cntB s d q t p)) (fun _ i => q - (intOf i).toNat)
          case atStart => exact ⟨0, Nat.zero_le _, rfl, rfl⟩
          case round =>
            obtain ⟨p, hp, rfl, rfl⟩ := hrel
            have hcle := cntB_le s d q t p
            by_cases hlt3 : p < q
            · obtain ⟨hB5, hG5, hD, hlD⟩ := HX.out
              obtain ⟨xb, xo, e1, hc⟩ := (H0.out.kept k05.out).at hlt3
              subst e1
              obtain ⟨r, hr, _, _⟩ := lastI_has s q p hlt3
              have hkb : keepB s d q t p = ((lastI d t (s p)).isNone && (lastI s q (s p) == some p)) := rfl
              obtain ⟨x, hx⟩ : ∃ x, x = s p := ⟨_, rfl⟩
              obtain ⟨c, hcc⟩ : ∃ c, c = cntB s d q t p := ⟨_, rfl⟩
              rw [← hcc] at hcle ⊢
              rw [← hx] at hc hr hkb
              rw [hr] at hkb
              have l1 := run_lookup_assoc strKey (P := Tryz.prog) Tryz.underlying51 Tryz.underlying9 w5 hG5 x _ (zeroBool w5) false
              have l2 := run_lookup_assoc strKey (P := Tryz.prog) Tryz.underlying50 Tryz.underlying9 w5 hB5 x _ (zeroInt w5) false
              rw [lkp_mapN] at l1 l2
              rw [hr] at l2
              have qr : ((r : Int) != (r : Int)) = false := by simp
              cases hd : lastI d t x with
              | some u =>
                have l3 := run_lookup_assoc strKey (P := Tryz.prog) Tryz.underlying41 Tryz.underlying9 w5 hD x _ (zeroAny w5) true
                rw [hlD x, hd, if_pos rfl] at l3
                rw [hd] at l1 hkb
                have HC : Hid (cntB s d q t (p + 1) = c) := by rw [hcc]; exact cntB_no (by rw [hkb]; rfl)
                simp only [strKey, Bool.false_eq_true, if_false, Option.map_some, Option.getD_some] at l1 l2 l3
                clear hx hr hkb hB5 hG5 hD hlD hd hcc
                go_wp2
                go_round
                case rel => exact ⟨p + 1, by omega, by go_num, by rw [HC.out]⟩
                case measure => simp [intOf]; omega
              | none =>
                have l3 := run_lookup_assoc strKey (P := Tryz.prog) Tryz.underlying41 Tryz.underlying9 w5 hD x _ (zeroAny w5) false
                rw [hlD x, hd, if_neg (by simp), lkp_mapN, hr] at l3
                rw [hd] at l1 hkb
                by_cases erp : r = p
                · have HC : Hid (cntB s d q t (p + 1) = c + 1) := by rw [hcc]; exact cntB_yes (by rw [hkb, erp]; simp)
                  have qe : ((r : Int) == (p : Int)) = true := by simp; omega
                  simp only [strKey, Bool.false_eq_true, if_false, Option.map_some, Option.map_none, Option.getD_some, Option.getD_none] at l1 l2 l3
                  clear hx hr hkb hB5 hG5 hD hlD hd hcc erp
                  go_wp2
                  go_round
                  case rel => exact ⟨p + 1, by omega, by go_num, by rw [HC.out]; go_num⟩
                  case measure => simp [intOf]; omega
                · have HC : Hid (cntB s d q t (p + 1) = c) := by rw [hcc]; exact cntB_no (by rw [hkb]; simpa using erp)
                  have qe : ((r : Int) == (p : Int)) = false := by simp; omega
                  simp only [strKey, Bool.false_eq_true, if_false, Option.map_some, Option.map_none, Option.getD_some, Option.getD_none] at l1 l2 l3
                  clear hx hr hkb hB5 hG5 hD hlD hd hcc erp
                  go_wp2
                  go_round
                  case rel => exact ⟨p + 1, by omega, by go_num, by rw [HC.out]⟩
                  case measure => simp [intOf]; omega
            · obtain rfl : p = q := by omega
              have qz : (((cntB s d p t p : Nat) : Int) == ((cntB s d p t p : Nat) : Int)) = true := by simp
              go_wp2
              go_ret
              exact ⟨rfl, k05.out⟩
end Go.Proofs.YtlchcilkdenjeaaGreatDoor
