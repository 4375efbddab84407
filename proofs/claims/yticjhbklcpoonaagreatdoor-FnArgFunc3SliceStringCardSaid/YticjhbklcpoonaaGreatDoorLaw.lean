/- The walk of FnArgFunc3SliceString. -/
import Derived.Test.YticjhbklcpoonaaGreatDoorArg
import Derived.Test.YticjhbklcpoonaaGreatDoorWid
namespace Go.Proofs.YticjhbklcpoonaaGreatDoor
open Go.RowKit Go.Gq
set_option maxRecDepth 100000
theorem bytes45 (s : ByteArray) (x1 x2 : Int) (w : World) (hs : s.size ≤ 9223372036854775807) :
    Calls Tryz.prog 34 #[.string s, .int .i64 x1, .int .i64 x2] w fun e w' => ∃ b, e = .returned (.bool b) ∧ w = w' := by
  by_cases h1 : 1048576 < s.size
  · go_enter Tryz.func34, Tryz.ntmps34
    go_wp2
    go_ret
    exact ⟨_, rfl, rfl⟩
  go_enter Tryz.func34, Tryz.ntmps34
  go_wp2
  go_ret
  exact ⟨_, rfl, rfl⟩
theorem rd_at {w : World} {b n : Nat} {f : Nat → Value} (h : Rd w (some ⟨b, 0, none⟩) n f) {k : Nat} (hk : k < n) : w.cell? ⟨b, k, none⟩ = some (f k) := by
  obtain ⟨b', off, e, hc⟩ := h.at hk
  injection e with e
  injection e with e1 e2
  subst e1 e2
  rw [Nat.zero_add] at hc
  exact hc
def RposIs (s : ByteArray) (B : Nat) (w : World) (g cap k : Nat) : Prop := w.ownsRow B 3 1 (.slice (some ⟨g, 0, none⟩) k cap) k ((List.range k).map (fun j => Value.int .i64 (rpos s j)))
set_option maxHeartbeats 8000000 in
theorem FnArgFunc3SliceString_walk (str : ByteArray) (e s : Int) (w : World) (hs : str.size ≤ 9223372036854775807) (e0 : -9223372036854775808 ≤ e) (e1 : e ≤ 9223372036854775807) (s0 : -9223372036854775808 ≤ s) (s1 : s ≤ 9223372036854775807) :
    Calls Tryz.prog 8 #[.string str, .int .i64 e, .int .i64 s] w (TrueKept w) := by
  go_enter Tryz.func8, Tryz.ntmps8
  go_wp2_with fail
  refine (bytes45 str e s w hs).mono ?_
  rintro e' w1 ⟨b, rfl, rfl⟩
  cases b with
  | false =>
    go_wp2
    go_ret
    exact ⟨rfl, Below.refl _ _⟩
  | true =>
  by_cases g0 : 1048576 < str.size
  · go_wp2
    go_ret
    exact ⟨rfl, Below.refl _ _⟩
  obtain ⟨n, hn⟩ : ∃ n, n = str.size := ⟨_, rfl⟩
  have hn2 : n ≤ 1048576 := by omega
  have hmk : ∀ W : World, (Instr.makeSlice 64 (.int .i64 0) (.int .i64 ((str.size : Int) + 1))).run Tryz.prog W = .ok (.slice (some ⟨W.heap.size, 0, none⟩) 0 (n + 1)) (W.alloc (.cells (madeCells #[.int .i64 0] (n + 1)) 3)) := fun W => by
    have := make_gen 64 3 Tryz.underlying64 tixInt rfl (by omega) 0 (n + 1) (Nat.zero_le _) (by omega) W
    rw [show ((n + 1 : Nat) : Int) = (str.size : Int) + 1 by omega] at this
    exact this
  have L0 := rcnt_le str
  obtain ⟨L, hL⟩ : ∃ L, L = rcnt str := ⟨_, rfl⟩
  rw [← hL] at L0
  have HL := Lib.hid hL
  have L1 : L ≤ 1048576 := by omega
  clear hL
  have HN := Lib.hid hn
  clear hn
  go_wp2
  obtain ⟨W, HW⟩ : ∃ W : World, W = w.alloc (.cells (madeCells #[Value.int .i64 0] (n + 1)) 3) := ⟨_, rfl⟩
  have HI : Hid (Below w.heap.size w W ∧ RposIs str w.heap.size W w.heap.size (n + 1) 0) := by
    rw [HW]
    exact ⟨kept_alloc _ _, World.ownsRow_made w _ (n + 1) (Nat.le_refl _) (by simp only [maxLen]; omega) (made_size _ _)⟩
  rw [← HW]
  clear HW hmk
  go_loopw [7, 8] (fun x i wr => ∃ (k g cap : Nat), k ≤ L ∧ i = .int .i64 (rpos str k : Int) ∧ x = .slice (some ⟨g, 0, none⟩) k cap ∧ Hid (Below w.heap.size w wr ∧ RposIs str w.heap.size wr g cap k)) (fun _ i _ => n - (intOf i).toNat)
  case atStart => exact ⟨0, w.heap.size, n + 1, Nat.zero_le _, rfl, rfl, HI.out.1, HI.out.2⟩
  case round =>
  obtain ⟨k, g, cap, hk, rfl, rfl, HR⟩ := hrel
  obtain ⟨hb, ho⟩ := HR.out
  by_cases hlt : k < L
  · have hp : rpos str k < str.size := (rpos_iff str k).2 (by have := HL.out; omega)
    have hsx := rpos_succ str k hp
    have hle := rpos_le str (k + 1)
    have hw1 := rw1_pos str _ hp
    have HS := Lib.hid (And.intro hsx (And.intro hle hw1))
    obtain ⟨x, hx⟩ : ∃ x, x = rpos str k := ⟨_, rfl⟩
    rw [← hx] at hp ⊢
    have hwid := width45 str x hp (by omega)
    obtain ⟨y, hy⟩ : ∃ y, y = rw1 str x := ⟨_, rfl⟩
    have hsum : IntKind.i64.wrap ((x : Int) + (y : Int)) = (x : Int) + (y : Int) := IntWalk.i64_in _ (by rw [hsx, ← hx, ← hy] at hle; omega)
    rw [← hy] at hwid
    have HX := Lib.hid hx
    have HY := Lib.hid hy
    have Hwid := Lib.hid hwid
    have hc := cell_fresh wr #[Value.int .i64 (x : Int)] 3 0 (Value.int .i64 (x : Int)) rfl
    have hb3 := below_al hb (Nat.le_refl _) (.cells #[Value.int .i64 (x : Int)] 3)
    have hB2 : w.heap.size ≤ (wr.alloc (.cells #[Value.int .i64 (x : Int)] 3)).heap.size := hb3.size
    have hown2 := own_alloc ho (.cells #[Value.int .i64 (x : Int)] 3)
    have HW := Lib.hid hb3
    clear hx hy HR HI hb hb3 ho hsx hle hw1 hwid
    go_wp2_with (first
      | (at_builtin; refine wpl_app1 rfl _ _ 64 3 rfl Tryz.underlying64 tixInt rfl (by omega) w.heap.size _ (.slice (some ⟨g, 0, none⟩) k cap) k _ rfl hown2 wr.heap.size (Value.int .i64 (x : Int)) rfl hc rfl (by omega) hB2 ?_; intro g2 cap2 w2 ho2 hb2)
      | (go_at_call 35; refine (Hwid.out _).mono ?_; rintro e' w3 ⟨rfl, rfl⟩))
    have HZ := Lib.hid (And.intro ho2 hb2)
    clear ho2 hb2 hown2 hc hB2
    go_roundw
    case rel =>
      refine ⟨k + 1, g2, cap2, by omega, ?_, rfl, HW.out.trans HZ.out.2, ?_⟩
      · rw [HS.out.1, ← HX.out, ← HY.out]; go_num
      · unfold RposIs
        rw [List.range_succ, List.map_append, List.map_singleton, ← HX.out]
        exact HZ.out.1
    case measure =>
      have h1 := HS.out.2.2
      have h2 := HY.out
      have h3 := HX.out
      have h4 := HN.out
      rw [← h3, ← h2] at h1
      simp [intOf]
      omega
  obtain rfl : k = L := by omega
  have he := rpos_cnt str (k := k) (by have := HL.out; omega)
  rw [he]
  have h0 : (str.size : Int) = (n : Int) := by have := HN.out; omega
  have hc := cell_fresh wr #[Value.int .i64 (str.size : Int)] 3 0 (Value.int .i64 (str.size : Int)) rfl
  have hb3 := below_al hb (Nat.le_refl _) (.cells #[Value.int .i64 (str.size : Int)] 3)
  have hB2 : w.heap.size ≤ (wr.alloc (.cells #[Value.int .i64 (str.size : Int)] 3)).heap.size := hb3.size
  have hown2 := own_alloc ho (.cells #[Value.int .i64 (str.size : Int)] 3)
  have HW := Lib.hid hb3
  have HE := Lib.hid he
  have hnl : ¬ (str.size : Int) < (str.size : Int) := Int.lt_irrefl _
  clear HR HI hb hb3 ho he h0 hlt hk
  go_upto_region 10 with fail
  go_cut [7] (fun s7 wx => ∃ g cap, s7 = .slice (some ⟨g, 0, none⟩) (k + 1) cap ∧ Rd wx (some ⟨g, 0, none⟩) (k + 1) (fun i => .int .i64 (rpos str i)) ∧ Kept w wx)
  case first =>
    go_wp2_with (first
      | (at_builtin; refine wpl_app1 rfl _ _ 64 3 rfl Tryz.underlying64 tixInt rfl (by omega) w.heap.size _ (.slice (some ⟨g, 0, none⟩) k cap) k _ rfl hown2 wr.heap.size (Value.int .i64 (str.size : Int)) rfl hc rfl (by omega) hB2 ?_; intro g2 cap2 w2 ho2 hb2))
    go_meet
    refine ⟨g2, cap2, rfl, (own_rd ho2 rfl _ fun i hi => ?_).2, HW.out.trans hb2⟩
    by_cases e : i < k
    · rw [List.getElem?_append_left (by simpa using e)]; simp [e]
    · obtain rfl : i = k := by omega
      rw [List.getElem?_append_right (by simp)]; simp [HE.out]
  case rest =>
  obtain ⟨g3, cap3, rfl, hR, hK⟩ := hcut
  have R3 := Lib.hid hR
  have K3 := Lib.hid hK
  clear hR hK hown2 hc hB2 HW
  have hst := stO_le k (some s)
  have hen := enO_bd k (stO k (some s)) (some e) hst
  obtain ⟨st, est⟩ : ∃ st, st = stO k (some s) := ⟨_, rfl⟩
  rw [← est] at hst hen
  obtain ⟨en, een⟩ : ∃ en, en = enO k st (some e) := ⟨_, rfl⟩
  rw [← een] at hen
  have ES := Lib.hid est
  have EE := Lib.hid een
  have b1 := hst; have b2 := hen.1; have b3 := hen.2
  clear est een hst hen
  obtain ⟨j, hj⟩ : ∃ j : Int, j = if s < 0 then s + (k : Int) else s := ⟨_, rfl⟩
  have HJ := Lib.hid hj
  clear hj
  go_upto_if 49 with fail
  go_cut [10] (fun s10 wx => s10 = .int .i64 j ∧ wx = wc)
  case first =>
    by_cases c : s < 0
    · have hq : IntKind.i64.wrap (s + (k : Int)) = s + (k : Int) := IntWalk.i64_in _ (by omega)
      go_wp2_with fail
      go_meet
      exact ⟨by rw [HJ.out, if_pos c], rfl⟩
    · go_wp2_with fail
      go_meet
      exact ⟨by rw [HJ.out, if_neg (by omega)], rfl⟩
  case rest =>
  obtain ⟨rfl, rfl⟩ := hcut
  go_upto_if 54 with fail
  rename World => Z
  go_cut [10] (fun s10 wx => s10 = .int .i64 (st : Int) ∧ wx = Z)
  case first =>
    have hv := cl_st (L := k) (i := s)
    rw [← ES.out] at hv
    have HV := Lib.hid hv
    clear hv
    by_cases c : j < 0
    · go_wp2_with fail
      go_meet
      refine ⟨?_, rfl⟩
      rw [← HV.out]; unfold cl; have := HJ.out
      congr 1
      repeat' split at this
      all_goals (repeat' split)
      all_goals omega
    · by_cases c2 : (k : Int) < j
      · go_wp2_with fail
        go_meet
        refine ⟨?_, rfl⟩
        rw [← HV.out]; unfold cl; have := HJ.out
        congr 1
        repeat' split at this
        all_goals (repeat' split)
        all_goals omega
      · go_wp2_with fail
        go_meet
        refine ⟨?_, rfl⟩
        rw [← HV.out]; unfold cl; have := HJ.out
        congr 1
        repeat' split at this
        all_goals (repeat' split)
        all_goals omega
  case rest =>
  obtain ⟨rfl, rfl⟩ := hcut
  clear HJ
  obtain ⟨j2, hj⟩ : ∃ j : Int, j = if e < 0 then e + (k : Int) else e := ⟨_, rfl⟩
  have HJ := Lib.hid hj
  clear hj
  go_upto_if 61 with fail
  rename World => Z2
  go_cut [11] (fun s11 wx => s11 = .int .i64 j2 ∧ wx = Z2)
  case first =>
    by_cases c : e < 0
    · have hq : IntKind.i64.wrap (e + (k : Int)) = e + (k : Int) := IntWalk.i64_in _ (by omega)
      go_wp2_with fail
      go_meet
      exact ⟨by rw [HJ.out, if_pos c], rfl⟩
    · go_wp2_with fail
      go_meet
      exact ⟨by rw [HJ.out, if_neg (by omega)], rfl⟩
  case rest =>
  obtain ⟨rfl, rfl⟩ := hcut
  go_upto_if 67 with fail
  rename World => Z3
  go_cut [11] (fun s11 wx => s11 = .int .i64 (en : Int) ∧ wx = Z3)
  case first =>
    have hv := cl_en (L := k) (st := st) (i := e) b1
    rw [← EE.out] at hv
    have HV := Lib.hid hv
    clear hv
    by_cases c : j2 < (st : Int)
    · go_wp2_with fail
      go_meet
      refine ⟨?_, rfl⟩
      rw [← HV.out]; unfold cl; have := HJ.out
      congr 1
      repeat' split at this
      all_goals (repeat' split)
      all_goals omega
    · by_cases c2 : (k : Int) < j2
      · go_wp2_with fail
        go_meet
        refine ⟨?_, rfl⟩
        rw [← HV.out]; unfold cl; have := HJ.out
        congr 1
        repeat' split at this
        all_goals (repeat' split)
        all_goals omega
      · go_wp2_with fail
        go_meet
        refine ⟨?_, rfl⟩
        rw [← HV.out]; unfold cl; have := HJ.out
        congr 1
        repeat' split at this
        all_goals (repeat' split)
        all_goals omega
  case rest =>
  obtain ⟨rfl, rfl⟩ := hcut
  clear HJ
  rename World => Z4
  go_wp2_with fail
  refine (zzArg_any str e s _ (by omega) e0 e1 s0 s1).mono ?_
  rintro e' w5 ⟨rfl, hk5⟩
  have K5 := Lib.hid (K3.out.trans hk5)
  have R5 := Lib.hid (R3.out.kept hk5)
  clear hk5
  rw [← HL.out, ← ES.out, ← EE.out]
  have h1 := rpos_le_of str b2
  have h2 := rpos_le str en
  have t1 := rd_at R5.out (show st < k + 1 by omega)
  have t2 := rd_at R5.out (show en < k + 1 by omega)
  have q1 : (0 : Int) ≤ (st : Int) := by omega
  have q2 : (st : Int) < ((k : Int) + 1) := by omega
  have q3 : (0 : Int) ≤ (en : Int) := by omega
  have q4 : (en : Int) < ((k : Int) + 1) := by omega
  go_wp2_with fail
  go_quiet (fail)
  go_wp2
  go_ret
  exact ⟨rfl, K5.out.trans (kept_drewN _ _)⟩
end Go.Proofs.YticjhbklcpoonaaGreatDoor
