/- The walk of FnDelpathsOrderAndRepeatFree. -/
import Derived.Test.YtlchcilkdenjeaaGreatDoorZzc
import Derived.Test.YtlchcilkdenjeaaGreatDoorLawa
namespace Go.Proofs.YtlchcilkdenjeaaGreatDoor
open Go.RowKit Go.Gq
set_option maxRecDepth 100000
theorem gm_none_iff (n : Nat) (z idx : Nat → Int) : ∀ (k t : Nat), gm n z idx k t = none ↔ ∃ j, j < k ∧ (t : Int) = norm n (idx j)
  | 0, t => ⟨fun h => (by cases h), fun ⟨j, hj, _⟩ => absurd hj (Nat.not_lt_zero _)⟩
  | k + 1, t => by
    show (if (t : Int) = norm n (idx k) then none else gm n z idx k t) = none ↔ _
    by_cases e : (t : Int) = norm n (idx k)
    · rw [if_pos e]
      exact ⟨fun _ => ⟨k, by omega, e⟩, fun _ => rfl⟩
    · rw [if_neg e, gm_none_iff n z idx k t]
      refine ⟨fun ⟨j, h1, h2⟩ => ⟨j, by omega, h2⟩, fun ⟨j, h1, h2⟩ => ⟨j, ?_, h2⟩⟩
      rcases Nat.lt_or_ge j k with h | h
      · exact h
      · obtain rfl : j = k := by omega
        exact absurd h2 e
theorem gm_eq (n : Nat) (z idx ix : Nat → Int) (k k' : Nat) (h : ∀ i, (∃ j, j < k ∧ i = idx j) ↔ ∃ j, j < k' ∧ i = ix j) : gm n z idx k = gm n z ix k' := by
  funext t
  have hh : gm n z idx k t = none ↔ gm n z ix k' t = none := by
    rw [gm_none_iff, gm_none_iff]
    constructor
    · rintro ⟨j, h1, h2⟩
      obtain ⟨j', h3, h4⟩ := (h (idx j)).1 ⟨j, h1, rfl⟩
      exact ⟨j', h3, by rw [← h4]; exact h2⟩
    · rintro ⟨j, h1, h2⟩
      obtain ⟨j', h3, h4⟩ := (h (ix j)).2 ⟨j, h1, rfl⟩
      exact ⟨j', h3, by rw [← h4]; exact h2⟩
  cases h1 : gm n z idx k t with
  | none => rw [hh.1 h1]
  | some x =>
    cases h2 : gm n z ix k' t with
    | none => rw [hh.2 h2] at h1; cases h1
    | some y => rw [gm_val n z idx k t x h1, gm_val n z ix k' t y h2]
/-- The reverse of the list, then the list. -/
def revix (m : Nat) (idx : Nat → Int) (s : Nat) : Int := if s < m then idx (m - 1 - s) else idx (s - m)
theorem revix_same (n : Nat) (z idx : Nat → Int) (m : Nat) : gm n z (revix m idx) (2 * m) = gm n z idx m := by
  refine gm_eq n z _ _ _ _ fun i => ⟨?_, ?_⟩
  · rintro ⟨j, h1, h2⟩
    unfold revix at h2
    by_cases e : j < m
    · rw [if_pos e] at h2; exact ⟨m - 1 - j, by omega, h2⟩
    · rw [if_neg e] at h2; exact ⟨j - m, by omega, h2⟩
  · rintro ⟨j, h1, h2⟩
    refine ⟨m + j, by omega, ?_⟩
    unfold revix
    rw [if_neg (by omega), Nat.add_sub_cancel_left]
    exact h2
theorem revix_bounds {m : Nat} {idx : Nat → Int} (h : ∀ j, j < m → -9223372036854775808 ≤ idx j ∧ idx j ≤ 9223372036854775807) : ∀ j, j < m + m → -9223372036854775808 ≤ revix m idx j ∧ revix m idx j ≤ 9223372036854775807 := fun j hj => by
  unfold revix
  split
  · exact h _ (by omega)
  · exact h _ (by omega)
set_option maxHeartbeats 1000000 in
theorem zzBytes_FnDelpathsOrderAndRepeatFree_any (a0 : Option Addr) (n0 c0 : Nat) (a1 : Option Addr) (n1 c1 : Nat) (w : World) (h0 : n0 ≤ 9223372036854775807) (h1 : n1 ≤ 9223372036854775807) :
    Calls Tryz.prog 21 #[.slice a0 n0 c0, .slice a1 n1 c1] w (SomeBool w) := by
  by_cases g0 : n0 ≤ 1048576
  rotate_left
  · go_enter Tryz.func21, Tryz.ntmps21
    go_wp2
    go_ret
    exact ⟨false, rfl, rfl⟩
  by_cases g1 : n1 ≤ 1048576
  rotate_left
  · go_enter Tryz.func21, Tryz.ntmps21
    go_wp2
    go_ret
    exact ⟨false, rfl, rfl⟩
  by_cases g2 : n0 + n1 ≤ 1048576
  rotate_left
  · go_enter Tryz.func21, Tryz.ntmps21
    go_wp2
    go_ret
    exact ⟨false, rfl, rfl⟩
  go_enter Tryz.func21, Tryz.ntmps21
  go_wp2
  go_ret
  exact ⟨true, rfl, rfl⟩
set_option maxHeartbeats 8000000 in
theorem FnDelpathsOrderAndRepeatFree_walk (a0 : Option Addr) (n0 c0 : Nat) (a1 : Option Addr) (n1 c1 : Nat) (z idx : Nat → Int) (w : World) (h0 : Rd w a0 n0 (fun i => .int .i64 (z i))) (h1 : Rd w a1 n1 (fun i => .int .i64 (idx i)))
    (m0 : n0 ≤ 9223372036854775807) (m1 : n1 ≤ 9223372036854775807) (hi : ∀ j, j < n1 → -9223372036854775808 ≤ idx j ∧ idx j ≤ 9223372036854775807) :
    Calls Tryz.prog 5 #[.slice a0 n0 c0, .slice a1 n1 c1] w (TrueKept w) := by
  have H0 := Lib.hid h0
  have H1 := Lib.hid h1
  have HI := Lib.hid hi
  have hmm : ∀ W : World, (Instr.makeMap 39 none).run Tryz.prog W = .ok (.map (some W.heap.size)) (W.alloc (.map #[] 0)) := make_map
  clear h0 h1 hi
  go_enter Tryz.func5, Tryz.ntmps5
  go_wp2_with fail
  refine (zzBytes_FnDelpathsOrderAndRepeatFree_any a0 n0 c0 a1 n1 c1 w m0 m1).mono ?_
  rintro e w1 ⟨b, rfl, rfl⟩
  cases b with
  | false =>
    go_wp2
    go_ret
    exact ⟨rfl, Below.refl _ _⟩
  | true =>
  by_cases g0 : 65536 < n0
  · go_wp2
    go_ret
    exact ⟨rfl, Below.refl _ _⟩
  by_cases g1 : 32768 < n1
  · go_wp2
    go_ret
    exact ⟨rfl, Below.refl _ _⟩
  have hle := kl_len (gm n0 z idx n1) n0
  obtain ⟨M, hM⟩ : ∃ M, M = 2 * n1 := ⟨_, rfl⟩
  have hmk : (Instr.makeSlice 22 (.int .i64 0) (.int .i64 (2 * (n1 : Int)))).run Tryz.prog w = .ok (.slice (some ⟨w.heap.size, 0, none⟩) 0 M) (w.alloc (.cells (madeCells #[.int .i64 0] M) 3)) := by
    rw [show (2 * (n1 : Int)) = (M : Int) by omega]
    exact make_ints 0 M (Nat.zero_le _) (by omega) w
  have hMle : M ≤ 65536 := by omega
  have HM := Lib.hid hM
  clear hM
  go_wp2
  obtain ⟨W, HW⟩ : ∃ W : World, W = w.alloc (.cells (madeCells #[Value.int .i64 0] M) 3) := ⟨_, rfl⟩
  have hrow : W.rowIs w.heap.size 3 M (fun _ => .int .i64 0) := by rw [HW]; exact World.rowIs_made w _ M 3
  have hk : Kept w W := by rw [HW]; exact kept_alloc _ _
  have hsz : w.heap.size < W.heap.size := by rw [HW]; simp
  rw [← HW]
  clear HW hmk
  obtain ⟨oB, hoB⟩ : ∃ oB, oB = w.heap.size := ⟨_, rfl⟩
  rw [← hoB] at hrow hsz ⊢
  have HO : Hid (w.heap.size ≤ oB) := by show _ ≤ _; omega
  clear hoB
  go_loopw [5, 6] (fun rv jv wr => ∃ q r : Nat, r + q = n1 ∧ jv = .int .i64 ((q : Int) - 1) ∧ rv = .slice (some ⟨oB, 0, none⟩) r M ∧ Hid (Kept w wr ∧ oB < wr.heap.size ∧ ∃ h, wr.rowIs oB 3 M h ∧ ∀ s, s < r → h s = .int .i64 (revix n1 idx s))) (fun _ jv _ => (intOf jv + 1).toNat)
  case atStart => exact ⟨n1, 0, by omega, rfl, rfl, hk, hsz, _, hrow, fun s hs => absurd hs (Nat.not_lt_zero _)⟩
  case round =>
    obtain ⟨q, r, hqr, rfl, rfl, HR⟩ := hrel
    by_cases hz : q = 0
    · subst hz
      obtain rfl : r = n1 := by omega
      go_wp2
      go_loopw [5, 7] (fun rv jv wr => ∃ t : Nat, t ≤ r ∧ jv = .int .i64 t ∧ rv = .slice (some ⟨oB, 0, none⟩) (r + t) M ∧ Hid (Kept w wr ∧ oB < wr.heap.size ∧ ∃ h, wr.rowIs oB 3 M h ∧ ∀ s, s < r + t → h s = .int .i64 (revix r idx s))) (fun _ jv _ => r - (intOf jv).toNat)
      case atStart => exact ⟨0, Nat.zero_le _, rfl, rfl, HR.out⟩
      case round =>
        obtain ⟨t, ht, rfl, rfl, HT⟩ := hrel
        by_cases hlt : t < r
        · obtain ⟨b2, o2, rfl, hc2⟩ := (H1.out.kept HT.out.1).at hlt
          obtain ⟨x, hx⟩ : ∃ x, x = idx t := ⟨_, rfl⟩
          rw [← hx] at hc2
          have HX : Hid (revix r idx (r + t) = x) := by
            show _ = _
            unfold revix
            rw [if_neg (by omega), Nat.add_sub_cancel_left, hx]
          obtain ⟨j, hj⟩ : ∃ j, j = r + t := ⟨_, rfl⟩
          rw [← hj] at HX ⊢
          obtain ⟨h1, h2, h, h3, h4⟩ := HT.out
          have hka := kept_alloc wr (.cells #[Value.int .i64 x] 3)
          have hrow1 := rowIs_kept h3 hka
          have hjn : j < M := by have := HM.out; omega
          have hd := hrow1.cell hjn
          have hz := hrow1.frozen j
          have hr2 := hrow1.set j (.int .i64 x)
          have hk2 : Keep (fun x => x = oB) (wr.alloc (.cells #[Value.int .i64 x] 3)) ((wr.alloc (.cells #[Value.int .i64 x] 3)).setCell ⟨oB, j, none⟩ (.int .i64 x)) := ⟨rfl, rfl, rfl, by simp, fun i _ hn => Below.heap_setCell _ _ _ _ fun e => hn e⟩
          have HN : Hid (Kept w ((wr.alloc (.cells #[Value.int .i64 x] 3)).setCell ⟨oB, j, none⟩ (.int .i64 x)) ∧ oB < ((wr.alloc (.cells #[Value.int .i64 x] 3)).setCell ⟨oB, j, none⟩ (.int .i64 x)).heap.size ∧ ∃ h, ((wr.alloc (.cells #[Value.int .i64 x] 3)).setCell ⟨oB, j, none⟩ (.int .i64 x)).rowIs oB 3 M h ∧ ∀ s, s < j + 1 → h s = .int .i64 (revix r idx s)) := by
            refine ⟨Below.trans (h1.trans hka) (hk2.below (by have := h1.size; simp; omega) (fun i e => by have := HO.out; omega)), by simp; omega, _, hr2, fun s hs => ?_⟩
            by_cases e : s = j
            · subst e
              simp only [if_true]
              rw [HX.out]
            · simp only [if_neg e]
              exact h4 s (by omega)
          have HJ := Lib.hid hj
          clear h1 h2 h3 h4 hka hr2 hk2 hrow1 hj
          have q5 : (j : Int) + 1 ≤ (M : Int) := by have := HM.out; omega
          clear HT HR hx
          go_wp2
          go_roundw
          case rel => exact ⟨t + 1, by omega, by go_num, by rw [← Nat.add_assoc, ← HJ.out], by rw [← Nat.add_assoc, ← HJ.out]; exact HN.out⟩
          case measure => simp [intOf]; omega
        · obtain rfl : t = r := by omega
          obtain ⟨hk, _, h, hr, hs⟩ := HT.out
          have RR : Hid (Rd wr (some ⟨oB, 0, none⟩) (t + t) (fun s => .int .i64 (revix t idx s))) := .inr ⟨oB, 0, rfl, fun s hs' => by rw [Nat.zero_add, hr.cell (i := s) (by have := HM.out; omega), hs s hs']⟩
          have hk1 := hk
          clear hk hr hs HT HR
          have HE : Hid (gm n0 z (revix t idx) (t + t) = gm n0 z idx t) := by
            have := revix_same n0 z idx t
            rw [Nat.two_mul] at this
            exact this
          have T1 : Hid (Kept w wr) := hk1
          have K1 := T1
          clear hk1
          go_wp2_with fail
          refine (zzAnyInts_any a0 n0 c0 z wr (H0.out.kept T1.out) (by omega)).mono ?_
          rintro e v2 ⟨b2, rfl, _, hr, hk⟩
          have R2 := Lib.hid hr
          have K2 := Lib.hid hk
          clear hk hr
          have T2 : Hid (Kept w v2) := T1.out.trans K2.out
          go_wp2_with fail
          refine (zzIdxPaths_any a1 t c1 idx v2 (H1.out.kept T2.out) (by omega)).mono ?_
          rintro e v3 ⟨b3, Q3, rfl, _, hr, hk⟩
          have R3 := Lib.hid hr
          have K3 := Lib.hid hk
          clear hk hr
          have T3 : Hid (Kept w v3) := T2.out.trans K3.out
          go_wp2_with fail
          refine (call_del b2 n0 z (some ⟨b3, 0, none⟩) t t Q3 idx v3 (rowIs_kept R2.out (K3.out)) (by omega) (by omega) R3.out HI.out).mono ?_
          rintro e v4 ⟨b4, rfl, hr, hk⟩
          have R4 := Lib.hid hr
          have K4 := Lib.hid hk
          clear hk hr
          have T4 : Hid (Kept w v4) := T3.out.trans K4.out
          go_wp2_with fail
          refine (zzAsInts_any (some ⟨b4, 0, none⟩) _ n0 (fun s => (kl (gm n0 z idx t) n0).getD s 0) v4 R4.out (by omega)).mono ?_
          rintro e v5 ⟨b5, rfl, hr, hk⟩
          have R5 := Lib.hid hr
          have K5 := Lib.hid hk
          clear hk hr
          have T5 : Hid (Kept w v5) := T4.out.trans K5.out
          go_wp2_with fail
          refine (zzAnyInts_any a0 n0 c0 z v5 (H0.out.kept T5.out) (by omega)).mono ?_
          rintro e v6 ⟨b6, rfl, _, hr, hk⟩
          have R6 := Lib.hid hr
          have K6 := Lib.hid hk
          clear hk hr
          have T6 : Hid (Kept w v6) := T5.out.trans K6.out
          go_wp2_with fail
          refine (zzIdxPaths_any (some ⟨oB, 0, none⟩) (t + t) M (revix t idx) v6 (RR.out.kept (((((K2.out).trans K3.out).trans K4.out).trans K5.out).trans K6.out)) (by omega)).mono ?_
          rintro e v7 ⟨b7, Q7, rfl, _, hr, hk⟩
          have R7 := Lib.hid hr
          have K7 := Lib.hid hk
          clear hk hr
          have T7 : Hid (Kept w v7) := T6.out.trans K7.out
          go_wp2_with fail
          refine (call_del b6 n0 z (some ⟨b7, 0, none⟩) (t + t) (t + t) Q7 (revix t idx) v7 (rowIs_kept R6.out (K7.out)) (by omega) (by omega) R7.out (revix_bounds HI.out)).mono ?_
          rintro e v8 ⟨b8, rfl, hr, hk⟩
          have R8 := Lib.hid hr
          have K8 := Lib.hid hk
          clear hk hr
          have T8 : Hid (Kept w v8) := T7.out.trans K8.out
          rw [HE.out] at R8 ⊢
          go_wp2_with fail
          refine (zzAsInts_any (some ⟨b8, 0, none⟩) _ n0 (fun s => (kl (gm n0 z idx t) n0).getD s 0) v8 R8.out (by omega)).mono ?_
          rintro e v9 ⟨b9, rfl, hr, hk⟩
          have R9 := Lib.hid hr
          have K9 := Lib.hid hk
          clear hk hr
          have T9 : Hid (Kept w v9) := T8.out.trans K9.out
          go_wp2_with fail
          refine (zzSameInts_true _ _ _ _ _ (fun s => (kl (gm n0 z idx t) n0).getD s 0) v9 (R5.out.kept ((((K6.out).trans K7.out).trans K8.out).trans K9.out)) R9.out (by omega)).mono ?_
          rintro e v10 ⟨rfl, m10, hm⟩
          have K10 : Hid (Kept v9 v10) := by rw [hm]; exact kept_drewN _ _
          clear hm
          have T10 : Hid (Kept w v10) := T9.out.trans K10.out
          go_wp2
          go_ret
          exact ⟨rfl, T10.out⟩
    · obtain ⟨q, rfl⟩ : ∃ q', q = q' + 1 := ⟨q - 1, by omega⟩
      have e1 : ((q + 1 : Nat) : Int) - 1 = (q : Int) := by omega
      rw [e1]
      obtain ⟨b2, o2, rfl, hc2⟩ := (H1.out.kept HR.out.1).at (k := q) (by omega)
      obtain ⟨x, hx⟩ : ∃ x, x = idx q := ⟨_, rfl⟩
      rw [← hx] at hc2
      have HX : Hid (revix n1 idx r = x) := by
        show _ = _
        unfold revix
        rw [if_pos (by omega), hx]
        congr 1
        omega
      obtain ⟨j, hj⟩ : ∃ j, j = r := ⟨_, rfl⟩
      rw [← hj] at HX ⊢
      obtain ⟨h1, h2, h, h3, h4⟩ := HR.out
      have hka := kept_alloc wr (.cells #[Value.int .i64 x] 3)
      have hrow1 := rowIs_kept h3 hka
      have hjn : j < M := by have := HM.out; omega
      have hd := hrow1.cell hjn
      have hz := hrow1.frozen j
      have hr2 := hrow1.set j (.int .i64 x)
      have hk2 : Keep (fun x => x = oB) (wr.alloc (.cells #[Value.int .i64 x] 3)) ((wr.alloc (.cells #[Value.int .i64 x] 3)).setCell ⟨oB, j, none⟩ (.int .i64 x)) := ⟨rfl, rfl, rfl, by simp, fun i _ hn => Below.heap_setCell _ _ _ _ fun e => hn e⟩
      have HN : Hid (Kept w ((wr.alloc (.cells #[Value.int .i64 x] 3)).setCell ⟨oB, j, none⟩ (.int .i64 x)) ∧ oB < ((wr.alloc (.cells #[Value.int .i64 x] 3)).setCell ⟨oB, j, none⟩ (.int .i64 x)).heap.size ∧ ∃ h, ((wr.alloc (.cells #[Value.int .i64 x] 3)).setCell ⟨oB, j, none⟩ (.int .i64 x)).rowIs oB 3 M h ∧ ∀ s, s < j + 1 → h s = .int .i64 (revix n1 idx s)) := by
        refine ⟨Below.trans (h1.trans hka) (hk2.below (by have := h1.size; simp; omega) (fun i e => by have := HO.out; omega)), by simp; omega, _, hr2, fun s hs => ?_⟩
        by_cases e : s = j
        · subst e
          simp only [if_true]
          rw [HX.out]
        · simp only [if_neg e]
          exact h4 s (by omega)
      have HJ := Lib.hid hj
      clear h1 h2 h3 h4 hka hr2 hk2 hrow1 hj
      have q4 : (q : Int) < (n1 : Int) := by omega
      have q5 : (j : Int) + 1 ≤ (M : Int) := by have := HM.out; omega
      clear HR hx
      go_wp2
      go_roundw
      case rel => exact ⟨q, r + 1, by omega, by go_num, by rw [← HJ.out], by rw [← HJ.out]; exact HN.out⟩
      case measure => simp [intOf]
end Go.Proofs.YtlchcilkdenjeaaGreatDoor
