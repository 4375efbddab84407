/- The contract of zzPathTerm. -/
import Derived.Test.YtelbnidpchemiaaGreatDoorStp
namespace Go.Proofs.YtelbnidpchemiaaGreatDoor
open Go.RowKit Go.Gq
set_option maxRecDepth 100000
/-- The key of step i. -/
def pkA (kd : Nat → Int) (n1 : Nat) (s1 : Nat → ByteArray) (i : Nat) : Option ByteArray := pk (kd i) (tx n1 s1 i)
def pkL (kd : Nat → Int) (n1 : Nat) (s1 : Nat → ByteArray) (n : Nat) : List (Option ByteArray) := (List.range n).map (pkA kd n1 s1)
theorem pkL_cons (kd : Nat → Int) (n1 : Nat) (s1 : Nat → ByteArray) (n : Nat) : pkL kd n1 s1 (n + 1) = [pkA kd n1 s1 0] ++ (List.range n).map (fun j => pkA kd n1 s1 (1 + j)) := by
  unfold pkL
  rw [List.range_succ_eq_map, List.map_cons, List.map_map]
  simp only [List.cons_append, List.nil_append, List.cons.injEq, true_and]
  exact List.map_congr_left fun j _ => by simp [Nat.add_comm]
def PathAns (kd : Nat → Int) (n1 : Nat) (s1 : Nat → ByteArray) (n : Nat) (w : World) (e : Ending) (w' : World) : Prop :=
  ∃ t, e = .returned (bq t) ∧ (∀ W, Kept w' W → TermIx W.heap.size W t (pkL kd n1 s1 n)) ∧ t < w'.heap.size ∧ Kept w w'
set_option maxHeartbeats 8000000 in
theorem zzPathTerm_any (a0 : Option Addr) (n0 c0 : Nat) (kd : Nat → Int) (a1 : Option Addr) (n1 c1 : Nat) (s1 : Nat → ByteArray) (N : Nat) (w : World) (h0 : Rd w a0 n0 (fun i => .int .u8 (kd i))) (h1 : Rd w a1 n1 (fun i => .string (s1 i))) (hkd : ∀ i, i < n0 → 0 ≤ kd i ∧ kd i < 256) (hn : n0 ≤ 65536) (hn1 : n1 ≤ 65536) (hN1 : 1 ≤ N) (hN : N ≤ n0) :
    Calls Tryz.prog 47 #[.slice a0 n0 c0, .slice a1 n1 c1, .int .i64 0, .int .i64 N] w (PathAns kd n1 s1 N w) := by
  have RK := Lib.hid h0
  have RN := Lib.hid h1
  have HKD := Lib.hid hkd
  obtain ⟨xb, xo, rfl, hc0⟩ := h0.at (k := 0) (by omega)
  rw [Nat.add_zero] at hc0
  have hkd0 := hkd 0 (by omega)
  obtain ⟨kk, hkk⟩ : ∃ kk, kk = kd 0 := ⟨_, rfl⟩
  rw [← hkk] at hc0 hkd0
  have HKK := Lib.hid hkk
  have q0 : (0 : Int) < (n0 : Int) := by omega
  have q0n : 0 < n0 := by omega
  clear h0 h1 hkd hkk
  go_enter Tryz.func47, Tryz.ntmps47
  have kd1 := kept_drew w
  have htx : Calls Tryz.prog 49 #[.slice a1 n1 c1, .int .i64 0] w.drew _ := zzTextAt_any a1 n1 c1 s1 0 w.drew (RN.out.kept kd1) (by omega) (by omega)
  go_wp2_with fail
  go_region_held3 (fun W' => Kept w W' ∧ W'.cell? ⟨xb, xo, none⟩ = some (.int .u8 kk)) (first | exact ⟨kd1, hc0⟩ | exact ⟨kd1.trans hk1, kept_cell hk1 hc0⟩)
    (first
      | (go_at_call 49; refine htx.mono ?_; rintro e w9 ⟨rfl, rfl⟩)
      | (go_at_call 48; refine (zzPathStep_any kk (tx n1 s1 0) _ hkd0.1 hkd0.2).mono ?_; rintro e w1 ⟨ip, sf, rfl, hsf, hip, hk1⟩))
  clear htx hc0
  have K1 := Lib.hid (kd1.trans hk1)
  have HSF := Lib.hid hsf
  clear kd1 hk1 hsf
  have hp0 : pkA kd n1 s1 0 = pk kk (tx n1 s1 0) := by rw [HKK.out]; rfl
  rcases hip with ⟨rfl, hnone⟩ | ⟨i, rfl, hidx⟩
  · have HNone : Hid (pkA kd n1 s1 0 = none) := hp0.trans hnone
    clear hnone hp0
    go_wp2_with fail
    obtain ⟨W1, hW1⟩ : ∃ W : World, W = w1.alloc (.cells #[bq sf] 60) := ⟨_, rfl⟩
    obtain ⟨W, hW⟩ : ∃ W : World, W = W1.alloc (.cells (termC 1 np ⟨#[]⟩ np np np (.slice (some ⟨w1.heap.size, 0, none⟩) 1 1)) 88) := ⟨_, rfl⟩
    have hs1 : W1.heap.size = w1.heap.size + 1 := by rw [hW1]; simp
    have hrow := term_row W1 1 np np (.slice (some ⟨w1.heap.size, 0, none⟩) 1 1)
    have hr1 : W1.rowIs w1.heap.size 60 1 (fun _ => bq sf) := by
      rw [hW1]
      exact World.rowIs_alloc w1 #[bq sf] 60 _ (fun j hj => by
        have hj1 : j < 1 := hj
        obtain rfl : j = 0 := by omega
        rfl)
    have hk11 : Kept w1 W := by rw [hW, hW1]; exact (kept_alloc _ _).trans (kept_alloc _ _)
    have hk12 : Kept W1 W := by rw [hW]; exact kept_alloc _ _
    rw [← hW1, ← hW]
    rw [← hW, hs1] at hrow
    have HST0 : Hid (TermSt w.heap.size W (w1.heap.size + 1) (termF 1 np np) (.slice (some ⟨w1.heap.size, 0, none⟩) 1 1) (1 - 0) (fun _ => sf) (fun j => pk (kd (0 + j)) (tx n1 s1 (0 + j))) none ∧ Below w.heap.size w W) :=
      ⟨⟨by have := K1.out.size; omega, hrow, own_kept (own_of_row hr1 K1.out.size (by decide)) hk12, fun j hj => by
        obtain rfl : j = 0 := by omega
        have := HSF.out.stays (stays_kept hk11)
        rw [HKK.out] at this
        exact this, fun i o e => by cases e⟩, K1.out.trans hk11⟩
    clear hW1 hW hs1 hrow hr1 hk11 hk12 HSF
    go_wp2_with fail
    go_loopw [12, 13, 14] (fun x _ _ wr => ∃ (k : Nat) (v : Value) (sb : Nat → Nat), 1 ≤ k ∧ k ≤ N ∧ x = .int .i64 k ∧ Hid (TermSt w.heap.size wr (w1.heap.size + 1) (termF 1 np np) v (k - 0) sb (fun j => pk (kd (0 + j)) (tx n1 s1 (0 + j))) none ∧ Below w.heap.size w wr)) (fun x _ _ _ => N - (intOf x).toNat)
    case atStart => exact ⟨1, _, _, Nat.le_refl _, by omega, by go_num, HST0.out⟩
    case round =>
    obtain ⟨k, vv, sb, hk0, hk, rfl, HR⟩ := hrel
    by_cases hlt : k < N
    · obtain ⟨hst, hb⟩ := HR.out
      have hkb : Kept w wr := hb
      obtain ⟨xb9, xo9, ex9, hc0⟩ := (RK.out.kept hkb).at (k := k) (by omega)
      injection ex9 with ex9
      injection ex9 with ex9 ex8
      subst ex9 ex8
      have hkd := HKD.out k (by omega)
      obtain ⟨kk, hkk⟩ : ∃ kk, kk = kd k := ⟨_, rfl⟩
      rw [← hkk] at hc0 hkd
      have HKK := Lib.hid hkk
      have q4 : (0 : Int) ≤ (k : Int) := by omega
      have q5 : (k : Int) < (n0 : Int) := by omega
      have q6 : (k : Int) < (N : Int) := by omega
      have HR2 := Lib.hid (And.intro hst hkb)
      clear hkk hst hb hkb HR HST0
      have kd1 := kept_drew wr
      have htx := zzTextAt_any a1 n1 c1 s1 k wr.drew (RN.out.kept (HR2.out.2.trans kd1)) (by omega) (by omega)
      go_wp2_with fail
      go_region_held3 (fun W' => Kept wr W' ∧ W'.cell? ⟨xb, xo + k, none⟩ = some (.int .u8 kk)) (first | exact ⟨kd1, hc0⟩ | exact ⟨kd1.trans hk1, kept_cell hk1 hc0⟩)
        (first
          | (go_at_call 49; refine htx.mono ?_; rintro e w9 ⟨rfl, rfl⟩)
          | (go_at_call 48; refine (zzPathStep_any kk (tx n1 s1 k) _ hkd.1 hkd.2).mono ?_; rintro e v1 ⟨ip9, sf, rfl, hsf, _, hk1⟩))
      clear htx
      have hst1 := HR2.out.1.kept (kd1.trans hk1)
      have hb1 : Kept w v1 := HR2.out.2.trans (kd1.trans hk1)
      obtain ⟨sa, sc, hv, _, _⟩ := hst1.slice
      subst hv
      obtain ⟨m, hm⟩ : ∃ m, m = k - 0 := ⟨_, rfl⟩
      have hm2 : k + 1 - 0 = m + 1 := by omega
      rw [← hm] at hst1
      have hko : (fun j => pk (kd (0 + j)) (tx n1 s1 (0 + j))) m = pk kk (tx n1 s1 k) := by
        show pk (kd _) (tx n1 s1 _) = _
        rw [show 0 + m = k by omega, HKK.out]
      have hrow := hst1.2.1
      have hd : v1.cell? ⟨(w1.heap.size + 1), 16, none⟩ = some (.slice sa m sc) := by
        have := hrow.cell (i := 16) (by omega)
        simpa using this
      have hown2 := own_alloc hst1.2.2.1 (.cells #[bq sf] 60)
      have hc := cell_fresh v1 #[bq sf] 60 0 (bq sf) rfl
      have hB2 : w.heap.size ≤ (v1.alloc (.cells #[bq sf] 60)).heap.size := (below_al hb1 (Nat.le_refl _) _).size
      have hsf2 : SufH v1 sf ((fun j => pk (kd (0 + j)) (tx n1 s1 (0 + j))) m) := by rw [hko]; exact hsf
      have HW := Lib.hid (And.intro hst1 (And.intro hsf2 hb1))
      have hmn : m ≤ 4194304 := by omega
      have HMm := Lib.hid hm2
      clear hst1 hsf hsf2 hb1 hk1 kd1 hko hm hm2
      go_wp2_with (first
        | (at_builtin; refine wpl_app1g rfl _ _ 86 60 rfl Tryz.underlying86 tixSfx rfl (by omega) w.heap.size _ (.slice sa m sc) m _ rfl hown2 v1.heap.size (bq sf) rfl hc rfl hmn hB2 ?_; intro g2 cap2 w2 ho2 hb2 hg2; have hrow2 := row_grown (by decide) (hrow.alloc _) hown2 hg2; have hd2 := hrow2.cell (i := 16) (by omega); have hz2 := hrow2.frozen 16))
      have HZ := Lib.hid (And.intro ho2 (And.intro hb2 hg2))
      clear ho2 hb2 hg2 hown2 hc hB2 hrow hrow2 hd2 hz2 hd
      go_roundw
      case rel =>
        refine ⟨k + 1, .slice (some ⟨g2, 0, none⟩) (m + 1) cap2, (fun j => if j = m then sf else sb j), by omega, by omega, by go_num, ?_, ?_⟩
        · have := HW.out.1.app HW.out.2.1 HZ.out.1 HZ.out.2.2
          rw [HMm.out]
          exact this
        · exact ((below_al HW.out.2.2 (Nat.le_refl _) _).trans HZ.out.2.1).setCell (p := ⟨(w1.heap.size + 1), 16, none⟩) HW.out.1.1 _
      case measure => simp [intOf]; omega
    obtain rfl : k = N := by omega
    go_wp2
    go_ret
    obtain ⟨hst, hb⟩ := HR.out
    refine ⟨_, rfl, fun W hW => ?_, hst.2.1.lt, hb⟩
    refine TermIx.congr (other_ix _ _ 1 W ?_ (kept_cell hW (hst.2.1.cell (i := 0) (by omega))) (by decide) (by decide)) ?_ ?_
    · have := hst.2.1.lt; have := hW.size; omega
    · exact (allSome_none _ (List.mem_map.2 ⟨0, by simp; omega, HNone.out⟩)).symm
    · simp [pkL]; omega
  · have HIdx := Lib.hid hidx
    have HP0 := Lib.hid hp0
    clear hidx hp0 HSF
    go_wp2_with fail
    obtain ⟨W, hW⟩ : ∃ W : World, W = w1.alloc (.cells (termC 6 (bq i) ⟨#[]⟩ np np np ns) 88) := ⟨_, rfl⟩
    have hrow := term_row w1 6 (bq i) np ns
    have hk11 : Kept w1 W := by rw [hW]; exact kept_alloc _ _
    rw [← hW]
    rw [← hW] at hrow
    have HST0 : Hid (TermSt w.heap.size W w1.heap.size (termF 6 (bq i) np) ns (1 - 1) (fun _ => 0) (fun j => pk (kd (1 + j)) (tx n1 s1 (1 + j))) (some (i, pk kk (tx n1 s1 0))) ∧ Below w.heap.size w W) :=
      ⟨⟨K1.out.size, hrow, World.ownsRow_nil _ _ _ _, fun j hj => absurd hj (by omega), fun i2 o2 e => by injection e with e; injection e with e1 e2; subst e1 e2; exact HIdx.out.stays (stays_kept hk11)⟩, K1.out.trans hk11⟩
    clear hW hrow hk11 HIdx
    go_wp2_with fail
    go_loopw [12, 13, 14] (fun x _ _ wr => ∃ (k : Nat) (v : Value) (sb : Nat → Nat), 1 ≤ k ∧ k ≤ N ∧ x = .int .i64 k ∧ Hid (TermSt w.heap.size wr w1.heap.size (termF 6 (bq i) np) v (k - 1) sb (fun j => pk (kd (1 + j)) (tx n1 s1 (1 + j))) (some (i, pk kk (tx n1 s1 0))) ∧ Below w.heap.size w wr)) (fun x _ _ _ => N - (intOf x).toNat)
    case atStart => exact ⟨1, _, _, Nat.le_refl _, by omega, by go_num, HST0.out⟩
    case round =>
    obtain ⟨k, vv, sb, hk0, hk, rfl, HR⟩ := hrel
    by_cases hlt : k < N
    · obtain ⟨hst, hb⟩ := HR.out
      have hkb : Kept w wr := hb
      obtain ⟨xb9, xo9, ex9, hc0⟩ := (RK.out.kept hkb).at (k := k) (by omega)
      injection ex9 with ex9
      injection ex9 with ex9 ex8
      subst ex9 ex8
      have hkd := HKD.out k (by omega)
      obtain ⟨kk, hkk⟩ : ∃ kk, kk = kd k := ⟨_, rfl⟩
      rw [← hkk] at hc0 hkd
      have HKK := Lib.hid hkk
      have q4 : (0 : Int) ≤ (k : Int) := by omega
      have q5 : (k : Int) < (n0 : Int) := by omega
      have q6 : (k : Int) < (N : Int) := by omega
      have HR2 := Lib.hid (And.intro hst hkb)
      clear hkk hst hb hkb HR HST0
      have kd1 := kept_drew wr
      have htx := zzTextAt_any a1 n1 c1 s1 k wr.drew (RN.out.kept (HR2.out.2.trans kd1)) (by omega) (by omega)
      go_wp2_with fail
      go_region_held3 (fun W' => Kept wr W' ∧ W'.cell? ⟨xb, xo + k, none⟩ = some (.int .u8 kk)) (first | exact ⟨kd1, hc0⟩ | exact ⟨kd1.trans hk1, kept_cell hk1 hc0⟩)
        (first
          | (go_at_call 49; refine htx.mono ?_; rintro e w9 ⟨rfl, rfl⟩)
          | (go_at_call 48; refine (zzPathStep_any kk (tx n1 s1 k) _ hkd.1 hkd.2).mono ?_; rintro e v1 ⟨ip9, sf, rfl, hsf, _, hk1⟩))
      clear htx
      have hst1 := HR2.out.1.kept (kd1.trans hk1)
      have hb1 : Kept w v1 := HR2.out.2.trans (kd1.trans hk1)
      obtain ⟨sa, sc, hv, _, _⟩ := hst1.slice
      subst hv
      obtain ⟨m, hm⟩ : ∃ m, m = k - 1 := ⟨_, rfl⟩
      have hm2 : k + 1 - 1 = m + 1 := by omega
      rw [← hm] at hst1
      have hko : (fun j => pk (kd (1 + j)) (tx n1 s1 (1 + j))) m = pk kk (tx n1 s1 k) := by
        show pk (kd _) (tx n1 s1 _) = _
        rw [show 1 + m = k by omega, HKK.out]
      have hrow := hst1.2.1
      have hd : v1.cell? ⟨w1.heap.size, 16, none⟩ = some (.slice sa m sc) := by
        have := hrow.cell (i := 16) (by omega)
        simpa using this
      have hown2 := own_alloc hst1.2.2.1 (.cells #[bq sf] 60)
      have hc := cell_fresh v1 #[bq sf] 60 0 (bq sf) rfl
      have hB2 : w.heap.size ≤ (v1.alloc (.cells #[bq sf] 60)).heap.size := (below_al hb1 (Nat.le_refl _) _).size
      have hsf2 : SufH v1 sf ((fun j => pk (kd (1 + j)) (tx n1 s1 (1 + j))) m) := by rw [hko]; exact hsf
      have HW := Lib.hid (And.intro hst1 (And.intro hsf2 hb1))
      have hmn : m ≤ 4194304 := by omega
      have HMm := Lib.hid hm2
      clear hst1 hsf hsf2 hb1 hk1 kd1 hko hm hm2
      go_wp2_with (first
        | (at_builtin; refine wpl_app1g rfl _ _ 86 60 rfl Tryz.underlying86 tixSfx rfl (by omega) w.heap.size _ (.slice sa m sc) m _ rfl hown2 v1.heap.size (bq sf) rfl hc rfl hmn hB2 ?_; intro g2 cap2 w2 ho2 hb2 hg2; have hrow2 := row_grown (by decide) (hrow.alloc _) hown2 hg2; have hd2 := hrow2.cell (i := 16) (by omega); have hz2 := hrow2.frozen 16))
      have HZ := Lib.hid (And.intro ho2 (And.intro hb2 hg2))
      clear ho2 hb2 hg2 hown2 hc hB2 hrow hrow2 hd2 hz2 hd
      go_roundw
      case rel =>
        refine ⟨k + 1, .slice (some ⟨g2, 0, none⟩) (m + 1) cap2, (fun j => if j = m then sf else sb j), by omega, by omega, by go_num, ?_, ?_⟩
        · have := HW.out.1.app HW.out.2.1 HZ.out.1 HZ.out.2.2
          rw [HMm.out]
          exact this
        · exact ((below_al HW.out.2.2 (Nat.le_refl _) _).trans HZ.out.2.1).setCell (p := ⟨w1.heap.size, 16, none⟩) HW.out.1.1 _
      case measure => simp [intOf]; omega
    obtain rfl : k = N := by omega
    go_wp2
    go_ret
    obtain ⟨hst, hb⟩ := HR.out
    refine ⟨_, rfl, fun W hW => ?_, hst.2.1.lt, hb⟩
    obtain ⟨sa, sc, hv, hrd, hblk⟩ := hst.slice
    subst hv
    obtain ⟨m, hm⟩ : ∃ m, m = k - 1 := ⟨_, rfl⟩
    rw [← hm] at hst hrd
    have hlt2 := hst.2.1.lt
    have hsz := hW.size
    have := term_index W.heap.size w1.heap.size i sa m sc (fun j => pk (kd (1 + j)) (tx n1 s1 (1 + j))) sb (pk kk (tx n1 s1 0)) W (by omega) (kept_cell hW (hst.2.1.cell (i := 0) (by omega))) (kept_cell hW (hst.2.1.cell (i := 1) (by omega))) ((hst.2.2.2.2 i _ rfl).is.up hW hsz) (kept_cell hW (hst.2.1.cell (i := 16) (by omega))) (hrd.kept hW) (fun x e => by have := hblk x e; omega) (fun j hj => ((hst.2.2.2.1 j hj).is).up hW hsz)
    rw [← HP0.out] at this
    rw [show k = m + 1 by omega, pkL_cons]
    exact this
end Go.Proofs.YtelbnidpchemiaaGreatDoor
