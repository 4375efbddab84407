/- The contract of zzMarkModel: mark, then keep what is not marked. -/
import Derived.Test.YtlchcilkdenjeaaGreatDoorHelpb
namespace Go.Proofs.YtlchcilkdenjeaaGreatDoor
open Go.RowKit Go.Gq
set_option maxRecDepth 100000
theorem gm_val (n : Nat) (z idx : Nat → Int) : ∀ (k t : Nat) (x : Int), gm n z idx k t = some x → x = z t
  | 0, t, x, h => by
    injection h with h
    exact h.symm
  | k + 1, t, x, h => by
    unfold gm markAt at h
    split at h
    · cases h
    · exact gm_val n z idx k t x h
set_option maxHeartbeats 4000000 in
theorem zzMarkModel_any (a a' : Option Addr) (n m c c' : Nat) (z idx : Nat → Int) (w : World) (h : Rd w a n (fun i => .int .i64 (z i))) (h' : Rd w a' m (fun i => .int .i64 (idx i))) (hn : n ≤ 1048576) (hm : m ≤ 1048576)
    (hi : ∀ j, j < m → -9223372036854775808 ≤ idx j ∧ idx j ≤ 9223372036854775807) :
    Calls Tryz.prog 18 #[.slice a n c, .slice a' m c'] w fun e w' => ∃ b, e = .returned (.slice (some ⟨b, 0, none⟩) (kl (gm n z idx m) n).length n) ∧ Rd w' (some ⟨b, 0, none⟩) (kl (gm n z idx m) n).length (fun s => .int .i64 ((kl (gm n z idx m) n).getD s 0)) ∧ Kept w w' := by
  have hmk := make_bools n n (Nat.le_refl _) (by omega)
  have HM : Hid (∀ W : World, (Instr.makeSlice 22 (.int .i64 0) (.int .i64 (n : Int))).run Tryz.prog W = .ok (.slice (some ⟨W.heap.size, 0, none⟩) 0 n) (W.alloc (.cells (madeCells #[.int .i64 0] n) 3))) := fun W => make_ints 0 n (Nat.zero_le _) (by omega) W
  have H := Lib.hid h
  have H' := Lib.hid h'
  have HI := Lib.hid hi
  clear h h' hi
  go_enter Tryz.func18, Tryz.ntmps18
  go_wp2
  obtain ⟨W, HW⟩ : ∃ W : World, W = w.alloc (.cells (madeCells #[Value.bool false] n) 4) := ⟨_, rfl⟩
  have hrow : W.rowIs w.heap.size 4 n (fun _ => .bool false) := by rw [HW]; exact World.rowIs_made w _ n 4
  have hk : Kept w W := by rw [HW]; exact kept_alloc _ _
  have hsz : w.heap.size < W.heap.size := by rw [HW]; simp
  rw [← HW]
  clear HW hmk
  go_loopw [7] (fun i wr => ∃ k : Nat, k ≤ m ∧ i = .int .i64 k ∧ wr.rowIs w.heap.size 4 n (fun t => .bool (gm n z idx k t).isNone) ∧ Hid (Kept w wr ∧ w.heap.size < wr.heap.size)) (fun i _ => m - (intOf i).toNat)
  case atStart => exact ⟨0, Nat.zero_le _, rfl, hrow, hk, hsz⟩
  case round =>
    obtain ⟨k, hk, rfl, hrow, HK⟩ := hrel
    by_cases hlt : k < m
    · obtain ⟨b, off, rfl, hc⟩ := (H'.out.kept HK.out.1).at hlt
      obtain ⟨i, hi⟩ : ∃ i, i = idx k := ⟨_, rfl⟩
      rw [← hi] at hc
      have hb := HI.out k hlt
      rw [← hi] at hb
      obtain ⟨hb0, hb1⟩ := hb
      have hstep : ∀ t, gm n z idx (k + 1) t = if (t : Int) = norm n i then none else gm n z idx k t := fun t => by rw [hi]; rfl
      clear hi
      by_cases hneg : i < 0
      · by_cases hin : i + (n : Int) < 0
        · have hsame : wr.rowIs w.heap.size 4 n (fun t => .bool (gm n z idx (k + 1) t).isNone) := hrow.congr fun t ht => by
            rw [hstep t, norm, if_pos hneg, if_neg (by omega)]
          have HS := Lib.hid hsame
          have qq : ¬ (i + (n : Int) ≥ 0) := by omega
          clear hstep hrow hsame
          go_wp2
          go_roundw
          case rel => exact ⟨k + 1, by omega, by go_num, HS.out, HK.out⟩
          case measure => simp [intOf]; omega
        · obtain ⟨j, hj⟩ : ∃ j : Nat, i + (n : Int) = j := ⟨(i + n).toNat, by omega⟩
          have hjn : j < n := by omega
          obtain rfl : i = (j : Int) - n := by omega
          have hd := hrow.cell hjn
          have hz := hrow.frozen j
          have hset := (hrow.set j (.bool true)).congr (g := fun t => .bool (gm n z idx (k + 1) t).isNone) (fun t ht => by
            rw [hstep t, norm, if_pos hneg, hj]
            by_cases e : t = j
            · subst e; simp
            · simp only [if_neg e, if_neg (show ¬ (t : Int) = j by omega)])
          have HS := Lib.hid hset
          have HK2 : Hid (Kept w (wr.setCell ⟨w.heap.size, j, none⟩ (.bool true)) ∧ w.heap.size < (wr.setCell ⟨w.heap.size, j, none⟩ (.bool true)).heap.size) := ⟨HK.out.1.setCell (p := ⟨w.heap.size, j, none⟩) (Nat.le_refl _) _, by simpa using HK.out.2⟩
          have e1 : ((j : Int) - n + n) = j := by omega
          clear hstep hrow hset HK hj
          go_wp2
          go_roundw
          case rel => exact ⟨k + 1, by omega, by go_num, HS.out, HK2.out⟩
          case measure => simp [intOf]; omega
      · obtain ⟨j, rfl⟩ : ∃ j : Nat, i = j := ⟨i.toNat, by omega⟩
        by_cases hjn : j < n
        · have hd := hrow.cell hjn
          have hz := hrow.frozen j
          have hset := (hrow.set j (.bool true)).congr (g := fun t => .bool (gm n z idx (k + 1) t).isNone) (fun t ht => by
            rw [hstep t, norm, if_neg hneg]
            by_cases e : t = j
            · subst e; simp
            · simp only [if_neg e, if_neg (show ¬ (t : Int) = j by omega)])
          have HS := Lib.hid hset
          have HK2 : Hid (Kept w (wr.setCell ⟨w.heap.size, j, none⟩ (.bool true)) ∧ w.heap.size < (wr.setCell ⟨w.heap.size, j, none⟩ (.bool true)).heap.size) := ⟨HK.out.1.setCell (p := ⟨w.heap.size, j, none⟩) (Nat.le_refl _) _, by simpa using HK.out.2⟩
          have q1 : (j : Int) < (n : Int) := by omega
          clear hstep hrow hset HK
          go_wp2
          go_roundw
          case rel => exact ⟨k + 1, by omega, by go_num, HS.out, HK2.out⟩
          case measure => simp [intOf]; omega
        · have hsame : wr.rowIs w.heap.size 4 n (fun t => .bool (gm n z idx (k + 1) t).isNone) := hrow.congr fun t ht => by
            rw [hstep t, norm, if_neg hneg, if_neg (by omega)]
          have HS := Lib.hid hsame
          have q1 : ¬ (j : Int) < (n : Int) := by omega
          clear hstep hrow hsame
          go_wp2
          go_roundw
          case rel => exact ⟨k + 1, by omega, by go_num, HS.out, HK.out⟩
          case measure => simp [intOf]; omega
    · have : k = m := by omega
      subst this
      have hmk2 := HM.out
      obtain ⟨G, hG⟩ : ∃ G, G = gm n z idx k := ⟨_, rfl⟩
      have HV : Hid (∀ t x, G t = some x → x = z t) := by rw [hG]; exact gm_val n z idx k
      rw [← hG] at hrow
      have HG := Lib.hid hG
      clear hG
      go_wp2
      obtain ⟨W, HW⟩ : ∃ W : World, W = wr.alloc (.cells (madeCells #[Value.int .i64 0] n) 3) := ⟨_, rfl⟩
      have hkW : Kept wr W := by rw [HW]; exact kept_alloc _ _
      have hout : W.rowIs wr.heap.size 3 n (fun _ => .int .i64 0) := by rw [HW]; exact World.rowIs_made wr _ n 3
      have hdel := rowIs_kept hrow hkW
      rw [← HW]
      have HK2 : Hid (Kept w W) := HK.out.1.trans hkW
      have hszw : w.heap.size < wr.heap.size := HK.out.2
      have HB : Hid (wr.heap.size < W.heap.size) := by rw [HW]; show _ < _; simp
      clear HW hmk2 hkW
      obtain ⟨oB, hoB⟩ : ∃ oB, oB = wr.heap.size := ⟨_, rfl⟩
      rw [← hoB] at hout hszw HB ⊢
      clear hoB
      go_loopw [9, 10] (fun o i wr => ∃ t : Nat, t ≤ n ∧ i = .int .i64 t ∧ o = .slice (some ⟨oB, 0, none⟩) (kl G t).length n ∧ wr.rowIs w.heap.size 4 n (fun t => .bool (G t).isNone) ∧ Hid (Kept w wr ∧ oB < wr.heap.size ∧ ∃ h, wr.rowIs oB 3 n h ∧ ∀ s, s < (kl G t).length → h s = .int .i64 ((kl G t).getD s 0))) (fun _ i _ => n - (intOf i).toNat)
      case atStart => exact ⟨0, Nat.zero_le _, rfl, rfl, hdel, HK2.out, HB.out, _, hout, fun s hs => absurd hs (Nat.not_lt_zero _)⟩
      case round =>
        obtain ⟨t, ht, rfl, rfl, hdel, HR⟩ := hrel
        by_cases hlt2 : t < n
        · have hc := hdel.cell hlt2
          cases hg : G t with
          | none =>
            rw [hg] at hc
            simp only [Option.isNone_none] at hc
            have HL : Hid (kl G (t + 1) = kl G t) := kl_none hg
            have HD := Lib.hid hdel
            clear hg hdel
            go_wp2
            go_roundw
            case rel =>
              obtain ⟨h1, h2, h, h3, h4⟩ := HR.out
              exact ⟨t + 1, by omega, by go_num, by rw [HL.out], HD.out, h1, h2, h, h3, by rw [HL.out]; exact h4⟩
            case measure => simp [intOf]; omega
          | some x =>
            rw [hg] at hc
            simp only [Option.isNone_some] at hc
            have hx : x = z t := HV.out t x hg
            obtain ⟨b2, o2, rfl, hc2⟩ := (H.out.kept HR.out.1).at hlt2
            rw [← hx] at hc2
            have HL : Hid (kl G (t + 1) = kl G t ++ [x]) := kl_some hg
            have hkt := kl_len G t
            obtain ⟨j, hj⟩ : ∃ j, j = (kl G t).length := ⟨_, rfl⟩
            rw [← hj] at hkt ⊢
            have HJ := Lib.hid hj
            obtain ⟨h1, h2, h, h3, h4⟩ := HR.out
            have hka := kept_alloc wr (.cells #[Value.int .i64 x] 3)
            have hrow1 := rowIs_kept h3 hka
            have hjn : j < n := by omega
            have hd := hrow1.cell hjn
            have hz := hrow1.frozen j
            have hr2 := hrow1.set j (.int .i64 x)
            have hk2 : Keep (fun x => x = oB) (wr.alloc (.cells #[Value.int .i64 x] 3)) ((wr.alloc (.cells #[Value.int .i64 x] 3)).setCell ⟨oB, j, none⟩ (.int .i64 x)) := ⟨rfl, rfl, rfl, by simp, fun i _ hn => Below.heap_setCell _ _ _ _ fun e => hn e⟩
            obtain ⟨w2, hw2⟩ : ∃ w2, w2 = (wr.alloc (.cells #[Value.int .i64 x] 3)).setCell ⟨oB, j, none⟩ (.int .i64 x) := ⟨_, rfl⟩
            rw [← hw2] at hr2 hk2
            have hq2 := hw2.symm
            have hdel2 : w2.rowIs w.heap.size 4 n (fun t => .bool (G t).isNone) := rowIs_keep (rowIs_kept hdel hka) hk2 (by show ¬ w.heap.size = oB; omega)
            have HD := Lib.hid hdel2
            have HN : Hid (Kept w w2 ∧ oB < w2.heap.size ∧ ∃ h, w2.rowIs oB 3 n h ∧ ∀ s, s < (kl G (t + 1)).length → h s = .int .i64 ((kl G (t + 1)).getD s 0)) := by
              refine ⟨Below.trans (h1.trans hka) (hk2.below (by have := h1.size; simp; omega) (fun i e => by omega)), by have := hk2.size; simp at this; omega, _, hr2, fun s hs => ?_⟩
              rw [HL.out] at hs ⊢
              rw [List.length_append, List.length_singleton, ← hj] at hs
              by_cases e : s = j
              · subst e
                simp only [if_true]
                rw [hj, getD_app_eq]
              · simp only [if_neg e]
                rw [getD_app_lt (by omega)]
                exact h4 s (by omega)
            clear hg hdel h1 h2 h3 h4 hka hr2 hk2 hdel2 HR hj hx hw2 hrow1
            rw [← hq2] at HD HN
            clear hq2
            go_wp2
            go_roundw
            case rel =>
              refine ⟨t + 1, by omega, by go_num, ?_, HD.out, HN.out⟩
              rw [HL.out, List.length_append, List.length_singleton, ← HJ.out]
            case measure => simp [intOf]; omega
        · have : t = n := by omega
          subst this
          go_wp2
          go_ret
          obtain ⟨h1, h2, h, h3, h4⟩ := HR.out
          have hle := kl_len G t
          rw [← HG.out]
          exact ⟨_, rfl, .inr ⟨oB, 0, rfl, fun s hs => by rw [Nat.zero_add]; rw [h3.cell (i := s) (by omega), h4 s hs]⟩, h1⟩
end Go.Proofs.YtlchcilkdenjeaaGreatDoor
