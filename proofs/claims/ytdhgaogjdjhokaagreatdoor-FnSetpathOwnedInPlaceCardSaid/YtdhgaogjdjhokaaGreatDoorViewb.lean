/- The contract of zzView at an object, an int, an error. -/
import Derived.Test.YtdhgaogjdjhokaaGreatDoorView
namespace Go.Proofs.YtdhgaogjdjhokaaGreatDoor
open Go.RowKit Go.Gq
set_option maxRecDepth 100000
/-- The i-th key in play: the keys, then key. -/
def kk (ss : List ByteArray) (n : Nat) (key : ByteArray) (i : Nat) : ByteArray := if i < n then ss.getD i ByteArray.empty else key
/-- The int of an entry. -/
def iv : Option Value → Int
  | some (.iface _ (.int _ z)) => z
  | _ => 0
theorem mapIs_drew {w : World} {b : Nat} {l : List (ByteArray × Value)} (h : w.MapIs strKey b l) : w.drew.MapIs strKey b l := h
set_option maxHeartbeats 4000000 in
theorem zzView_obj (b : Nat) (l : List (ByteArray × Value)) (ss : List ByteArray) (a1 : Option Addr) (n1 c1 : Nat) (key : ByteArray) (w : World) (hm : w.MapIs strKey b l) (hl : ∀ k v, lkp k l = some v → ∃ z, v = ia z) (h1 : Rd w a1 n1 (vs ss)) (hn : n1 ≤ 1048576) :
    Calls Tryz.prog 30 #[.iface 59 (.map (some b)), .slice a1 n1 c1, .string key] w fun e w' => ∃ ah av, (w.heap.size ≤ ah.block ∧ w.heap.size ≤ av.block) ∧ e = .returned (.agg #[.int .i64 2, .slice none 0 0, .slice none 0 0, .int .i64 (l.length : Int), .slice (some ah) (n1 + 1) (n1 + 1), .slice (some av) (n1 + 1) (n1 + 1)]) ∧
      Rd w' (some ah) (n1 + 1) (fun i => .bool (lkp (kk ss n1 key i) l).isSome) ∧ Rd w' (some av) (n1 + 1) (fun i => .int .i64 (iv (lkp (kk ss n1 key i) l))) ∧ Kept w w' := by
  have hm1 : ∀ W : World, (Instr.makeSlice 22 (.int .i64 ((n1 : Int) + 1)) (.int .i64 ((n1 : Int) + 1))).run Tryz.prog W = .ok (.slice (some ⟨W.heap.size, 0, none⟩) (n1 + 1) (n1 + 1)) (W.alloc (.cells (madeCells #[.int .i64 0] (n1 + 1)) 3)) := make_ints (n1 + 1) (by omega)
  have hm2 : ∀ W : World, (Instr.makeSlice 29 (.int .i64 ((n1 : Int) + 1)) (.int .i64 ((n1 : Int) + 1))).run Tryz.prog W = .ok (.slice (some ⟨W.heap.size, 0, none⟩) (n1 + 1) (n1 + 1)) (W.alloc (.cells (madeCells #[.bool false] (n1 + 1)) 4)) := make_bools (n1 + 1) (by omega)
  have L0 : ∀ o0 ty, (Builtin.len_ #[59] ty #[.map (some b)]).run Tryz.prog (w.alloc o0).drew = .ok (.int .i64 (l.length : Int)) (w.alloc o0).drew := fun o0 ty =>
    run_len_assoc strKey Tryz.underlying59 _ (mapIs_drew (mapIs_alloc strKey hm o0)) ty
  have L1 : ∀ o0 o1 ty, (Builtin.len_ #[59] ty #[.map (some b)]).run Tryz.prog ((w.alloc o0).alloc o1).drew = .ok (.int .i64 (l.length : Int)) ((w.alloc o0).alloc o1).drew := fun o0 o1 ty =>
    run_len_assoc strKey Tryz.underlying59 _ (mapIs_drew (mapIs_alloc strKey (mapIs_alloc strKey hm o0) o1)) ty
  have L2 : ∀ o0 o1 o2 ty, (Builtin.len_ #[59] ty #[.map (some b)]).run Tryz.prog (((w.alloc o0).alloc o1).alloc o2).drew = .ok (.int .i64 (l.length : Int)) (((w.alloc o0).alloc o1).alloc o2).drew := fun o0 o1 o2 ty =>
    run_len_assoc strKey Tryz.underlying59 _ (mapIs_drew (mapIs_alloc strKey (mapIs_alloc strKey (mapIs_alloc strKey hm o0) o1) o2)) ty
  have L3 : ∀ o0 o1 o2 o3 ty, (Builtin.len_ #[59] ty #[.map (some b)]).run Tryz.prog ((((w.alloc o0).alloc o1).alloc o2).alloc o3).drew = .ok (.int .i64 (l.length : Int)) ((((w.alloc o0).alloc o1).alloc o2).alloc o3).drew := fun o0 o1 o2 o3 ty =>
    run_len_assoc strKey Tryz.underlying59 _ (mapIs_drew (mapIs_alloc strKey (mapIs_alloc strKey (mapIs_alloc strKey (mapIs_alloc strKey hm o0) o1) o2) o3)) ty
  have Hs := Lib.hid (World.size_alloc w (.cells #[.int .i64 0, .slice none 0 0, .slice none 0 0, .int .i64 0, .slice none 0 0, .slice none 0 0] 31))
  have Hm := Lib.hid hm
  have Hl := Lib.hid hl
  clear hl hm
  go_enter Tryz.func30, Tryz.ntmps30
  go_upto_region 23 with fail
  go_cut [15] (fun s15 wx => ∃ bs bi bn, s15 = .pointer (some ⟨bs, 0, none⟩) ∧ wx.rowIs bs 31 6 (fun j => [Value.int .i64 2, .slice none 0 0, .slice none 0 0, .int .i64 (l.length : Int), .slice (some ⟨bn, 0, none⟩) (n1 + 1) (n1 + 1), .slice (some ⟨bi, 0, none⟩) (n1 + 1) (n1 + 1)].getD j undef) ∧
    wx.rowIs bi 3 (n1 + 1) (fun _ => .int .i64 0) ∧ wx.rowIs bn 4 (n1 + 1) (fun _ => .bool false) ∧ w.heap.size + 1 ≤ bs ∧ w.heap.size + 1 ≤ bi ∧ w.heap.size + 1 ≤ bn ∧ bs ≠ bi ∧ bs ≠ bn ∧ bi ≠ bn ∧ Kept w wx ∧ wx.rowIs w.heap.size 31 6 (fun j => [Value.int .i64 0, .slice none 0 0, .slice none 0 0, .int .i64 0, .slice none 0 0, .slice none 0 0].getD j undef))
  case first =>
    go_region
    all_goals (go_wp2_with fail; go_meet)
    all_goals first | exact ⟨w.heap.size + 1, w.heap.size + 1 + 1, w.heap.size + 1 + 1 + 1, rfl, row_of (l := [_, _, _, _, _, _]) (heap3_1 Hs.out), row_made (heap3_2 Hs.out), row_made (heap3_3 Hs.out), by omega, by omega, by omega, by omega, by omega, by omega, kept3, (row_of (l := [_, _, _, _, _, _]) (heap_alloc_new w _)).of_block (heap3_0 Hs.out)⟩ | exact ⟨w.heap.size + 1, w.heap.size + 1 + 1 + 1, w.heap.size + 1 + 1, rfl, row_of (l := [_, _, _, _, _, _]) (heap3_1 Hs.out), row_made (heap3_3 Hs.out), row_made (heap3_2 Hs.out), by omega, by omega, by omega, by omega, by omega, by omega, kept3, (row_of (l := [_, _, _, _, _, _]) (heap_alloc_new w _)).of_block (heap3_0 Hs.out)⟩ | exact ⟨w.heap.size + 1 + 1, w.heap.size + 1, w.heap.size + 1 + 1 + 1, rfl, row_of (l := [_, _, _, _, _, _]) (heap3_2 Hs.out), row_made (heap3_1 Hs.out), row_made (heap3_3 Hs.out), by omega, by omega, by omega, by omega, by omega, by omega, kept3, (row_of (l := [_, _, _, _, _, _]) (heap_alloc_new w _)).of_block (heap3_0 Hs.out)⟩ | exact ⟨w.heap.size + 1 + 1 + 1, w.heap.size + 1, w.heap.size + 1 + 1, rfl, row_of (l := [_, _, _, _, _, _]) (heap3_3 Hs.out), row_made (heap3_1 Hs.out), row_made (heap3_2 Hs.out), by omega, by omega, by omega, by omega, by omega, by omega, kept3, (row_of (l := [_, _, _, _, _, _]) (heap_alloc_new w _)).of_block (heap3_0 Hs.out)⟩ | exact ⟨w.heap.size + 1 + 1, w.heap.size + 1 + 1 + 1, w.heap.size + 1, rfl, row_of (l := [_, _, _, _, _, _]) (heap3_2 Hs.out), row_made (heap3_3 Hs.out), row_made (heap3_1 Hs.out), by omega, by omega, by omega, by omega, by omega, by omega, kept3, (row_of (l := [_, _, _, _, _, _]) (heap_alloc_new w _)).of_block (heap3_0 Hs.out)⟩ | exact ⟨w.heap.size + 1 + 1 + 1, w.heap.size + 1 + 1, w.heap.size + 1, rfl, row_of (l := [_, _, _, _, _, _]) (heap3_3 Hs.out), row_made (heap3_2 Hs.out), row_made (heap3_1 Hs.out), by omega, by omega, by omega, by omega, by omega, by omega, kept3, (row_of (l := [_, _, _, _, _, _]) (heap_alloc_new w _)).of_block (heap3_0 Hs.out)⟩
  case rest =>
    clear hm1 hm2 L0 L1 L2 L3 Hs
    obtain ⟨bs, bi, bn, rfl, hS, hI, hB, q1, q2, q3, q4, q5, q6, hkc, hR⟩ := hcut
    go_wp2_with fail
    go_loopw [16] (fun i wr => ∃ k : Nat, k ≤ n1 + 1 ∧ i = .int .i64 k ∧ wr.rowIs bs 31 6 (fun j => [Value.int .i64 2, .slice none 0 0, .slice none 0 0, .int .i64 (l.length : Int), .slice (some ⟨bn, 0, none⟩) (n1 + 1) (n1 + 1), .slice (some ⟨bi, 0, none⟩) (n1 + 1) (n1 + 1)].getD j undef) ∧ wr.rowIs bn 4 (n1 + 1) (fun j => if j < k then .bool (lkp (kk ss n1 key j) l).isSome else .bool false) ∧ wr.rowIs bi 3 (n1 + 1) (fun j => if j < k then .int .i64 (iv (lkp (kk ss n1 key j) l)) else .int .i64 0) ∧ Kept w wr ∧ wr.rowIs w.heap.size 31 6 (fun j => [Value.int .i64 0, .slice none 0 0, .slice none 0 0, .int .i64 0, .slice none 0 0, .slice none 0 0].getD j undef)) (fun i _ => n1 + 1 - (intOf i).toNat)
    case atStart => exact ⟨0, Nat.zero_le _, rfl, hS, by simpa using hB, by simpa using hI, hkc, hR⟩
    case round =>
      clear hS hI hB hkc hR
      obtain ⟨k, hk, rfl, hS, hB, hI, hkc, hR⟩ := hrel
      by_cases hlt : k < n1 + 1
      · have hlk := run_lookup_assoc strKey Tryz.underlying59 Tryz.underlying9 wr (mapIs_of_block strKey Hm.out (hkc.block b (mapIs_lt strKey Hm.out))) (kk ss n1 key k) _ (zeroAny wr) true
        have c4 := hS.cell (i := 4) (by omega)
        have c5 := hS.cell (i := 5) (by omega)
        simp only [List.getD_cons_succ, List.getD_cons_zero] at c4 c5
        have hd1 := hB.cell hlt
        have hz1 := hB.frozen k
        have hd2 := hI.cell hlt
        have hz2 := hI.frozen k
        simp only [Nat.lt_irrefl, if_false] at hd1 hd2
        cases hg : lkp (kk ss n1 key k) l with
        | none =>
          have hB2 := hB.congr (g := fun j => if j < k + 1 then .bool (lkp (kk ss n1 key j) l).isSome else .bool false) (fun j hj => by
            by_cases e : j = k
            · subst e; simp [hg]
            · by_cases e2 : j < k
              · rw [if_pos e2, if_pos (by omega)]
              · rw [if_neg e2, if_neg (by omega)])
          have hI2 := hI.congr (g := fun j => if j < k + 1 then .int .i64 (iv (lkp (kk ss n1 key j) l)) else .int .i64 0) (fun j hj => by
            by_cases e : j = k
            · subst e; simp [hg, iv]
            · by_cases e2 : j < k
              · rw [if_pos e2, if_pos (by omega)]
              · rw [if_neg e2, if_neg (by omega)])
          have HH : Hid (_ ∧ _ ∧ _ ∧ _ ∧ _) := ⟨hB2, hI2, hS, hR, hkc⟩
          rw [hg] at hlk
          simp only [strKey, if_true, Option.getD_none, Option.isSome_none] at hlk
          have h1' := h1.kept hkc
          clear hB2 hI2 hS hI hB hkc hR h1 hg c4 c5 hd1 hd2 hz1 hz2
          by_cases hk1 : k < n1
          · obtain ⟨b1, off1, rfl, hc1⟩ := h1'.at hk1
            simp only [vs] at hc1
            simp only [kk, if_pos hk1] at hlk
            obtain ⟨s, hss⟩ : ∃ s, s = ss.getD k ByteArray.empty := ⟨_, rfl⟩
            rw [← hss] at hc1 hlk
            clear hss h1'
            go_wp2
            go_roundw
            case rel => exact ⟨k + 1, by omega, by go_num, HH.out.2.2.1, HH.out.1, HH.out.2.1, HH.out.2.2.2.2, HH.out.2.2.2.1⟩
            case measure => simp [intOf]; omega
          · simp only [kk, if_neg hk1] at hlk
            clear h1'
            go_wp2
            go_roundw
            case rel => exact ⟨k + 1, by omega, by go_num, HH.out.2.2.1, HH.out.1, HH.out.2.1, HH.out.2.2.2.2, HH.out.2.2.2.1⟩
            case measure => simp [intOf]; omega
        | some v =>
          obtain ⟨z, rfl⟩ := Hl.out _ _ hg
          have hB2 := ((hB.set k (.bool true)).setOther (a := ⟨bi, k, none⟩) (Ne.symm q6) (.int .i64 z)).congr (g := fun j => if j < k + 1 then .bool (lkp (kk ss n1 key j) l).isSome else .bool false) (fun j hj => by
            by_cases e : j = k
            · subst e; simp [hg]
            · simp only [if_neg e]; by_cases e2 : j < k
              · rw [if_pos e2, if_pos (by omega)]
              · rw [if_neg e2, if_neg (by omega)])
          have hI2 := ((hI.setOther (a := ⟨bn, k, none⟩) q6 (.bool true)).set k (.int .i64 z)).congr (g := fun j => if j < k + 1 then .int .i64 (iv (lkp (kk ss n1 key j) l)) else .int .i64 0) (fun j hj => by
            by_cases e : j = k
            · subst e; simp [hg, iv, ia]
            · simp only [if_neg e]; by_cases e2 : j < k
              · rw [if_pos e2, if_pos (by omega)]
              · rw [if_neg e2, if_neg (by omega)])
          have hS2 := (hS.setOther (a := ⟨bn, k, none⟩) q5 (.bool true)).setOther (a := ⟨bi, k, none⟩) q4 (.int .i64 z)
          have hR2 := (hR.setOther (a := ⟨bn, k, none⟩) (by show w.heap.size ≠ bn; omega) (.bool true)).setOther (a := ⟨bi, k, none⟩) (by show w.heap.size ≠ bi; omega) (.int .i64 z)
          have hk2 := (Below.setCell hkc (p := ⟨bn, k, none⟩) (show w.heap.size ≤ bn by omega) (.bool true)).setCell (p := ⟨bi, k, none⟩) (show w.heap.size ≤ bi by omega) (.int .i64 z)
          have HH : Hid (_ ∧ _ ∧ _ ∧ _ ∧ _) := ⟨hB2, hI2, hS2, hR2, hk2⟩
          have d5 := (hS.setOther (a := ⟨bn, k, none⟩) q5 (.bool true)).cell (i := 5) (by omega)
          have d6 := (hI.setOther (a := ⟨bn, k, none⟩) q6 (.bool true)).cell hlt
          have d7 := (hI.setOther (a := ⟨bn, k, none⟩) q6 (.bool true)).frozen k
          simp only [List.getD_cons_succ, List.getD_cons_zero, Nat.lt_irrefl, if_false] at d5 d6
          rw [hg] at hlk
          simp only [strKey, if_true, Option.getD_some, Option.isSome_some, ia] at hlk
          have h1' := h1.kept hkc
          clear hB2 hI2 hS2 hR2 hk2 hS hI hB hkc hR h1 hg
          by_cases hk1 : k < n1
          · obtain ⟨b1, off1, rfl, hc1⟩ := h1'.at hk1
            simp only [vs] at hc1
            simp only [kk, if_pos hk1] at hlk
            obtain ⟨s, hss⟩ : ∃ s, s = ss.getD k ByteArray.empty := ⟨_, rfl⟩
            rw [← hss] at hc1 hlk
            clear hss h1'
            go_wp2
            go_roundw
            case rel => exact ⟨k + 1, by omega, by go_num, HH.out.2.2.1, HH.out.1, HH.out.2.1, HH.out.2.2.2.2, HH.out.2.2.2.1⟩
            case measure => simp [intOf]; omega
          · simp only [kk, if_neg hk1] at hlk
            clear h1'
            go_wp2
            go_roundw
            case rel => exact ⟨k + 1, by omega, by go_num, HH.out.2.2.1, HH.out.1, HH.out.2.1, HH.out.2.2.2.2, HH.out.2.2.2.1⟩
            case measure => simp [intOf]; omega
      · have hkn : k = n1 + 1 := by omega
        subst hkn
        have c0 := hS.cell (i := 0) (by omega)
        have c1' := hS.cell (i := 1) (by omega)
        have c2 := hS.cell (i := 2) (by omega)
        have c3 := hS.cell (i := 3) (by omega)
        have c4 := hS.cell (i := 4) (by omega)
        have c5 := hS.cell (i := 5) (by omega)
        have r0 := hR.cell (i := 0) (by omega)
        have r1 := hR.cell (i := 1) (by omega)
        have r2 := hR.cell (i := 2) (by omega)
        have r3 := hR.cell (i := 3) (by omega)
        have r4 := hR.cell (i := 4) (by omega)
        have r5 := hR.cell (i := 5) (by omega)
        have z0 := hR.frozen 0
        have z1 := hR.frozen 1
        have z2 := hR.frozen 2
        have z3 := hR.frozen 3
        have z4 := hR.frozen 4
        have z5 := hR.frozen 5
        simp only [List.getD_cons_succ, List.getD_cons_zero] at c0 c1' c2 c3 c4 c5 r0 r1 r2 r3 r4 r5
        have HI := Lib.hid hI
        have HB := Lib.hid hB
        have HK := Lib.hid hkc
        have HR := Lib.hid hR
        clear hI hB hkc hS hR h1
        go_wp2
        have F := six_row HR.out (.int .i64 2) (.slice none 0 0) (.slice none 0 0) (.int .i64 (l.length : Int)) (.slice (some ⟨bn, 0, none⟩) (n1 + 1) (n1 + 1)) (.slice (some ⟨bi, 0, none⟩) (n1 + 1) (n1 + 1))
        have FI := six_other HI.out (show bi ≠ w.heap.size by omega) (.int .i64 2) (.slice none 0 0) (.slice none 0 0) (.int .i64 (l.length : Int)) (.slice (some ⟨bn, 0, none⟩) (n1 + 1) (n1 + 1)) (.slice (some ⟨bi, 0, none⟩) (n1 + 1) (n1 + 1))
        have FB := six_other HB.out (show bn ≠ w.heap.size by omega) (.int .i64 2) (.slice none 0 0) (.slice none 0 0) (.int .i64 (l.length : Int)) (.slice (some ⟨bn, 0, none⟩) (n1 + 1) (n1 + 1)) (.slice (some ⟨bi, 0, none⟩) (n1 + 1) (n1 + 1))
        have FK := six_below HK.out (Nat.le_refl w.heap.size) (.int .i64 2) (.slice none 0 0) (.slice none 0 0) (.int .i64 (l.length : Int)) (.slice (some ⟨bn, 0, none⟩) (n1 + 1) (n1 + 1)) (.slice (some ⟨bi, 0, none⟩) (n1 + 1) (n1 + 1))
        generalize hW : six wr w.heap.size (.int .i64 2) (.slice none 0 0) (.slice none 0 0) (.int .i64 (l.length : Int)) (.slice (some ⟨bn, 0, none⟩) (n1 + 1) (n1 + 1)) (.slice (some ⟨bi, 0, none⟩) (n1 + 1) (n1 + 1)) = W at F FI FB FK
        unfold six at hW
        rw [hW]
        have e0 := F.cell (i := 0) (by omega)
        have e1 := F.cell (i := 1) (by omega)
        have e2 := F.cell (i := 2) (by omega)
        have e3 := F.cell (i := 3) (by omega)
        have e4 := F.cell (i := 4) (by omega)
        have e5 := F.cell (i := 5) (by omega)
        simp only [List.getD_cons_succ, List.getD_cons_zero] at e0 e1 e2 e3 e4 e5
        refine bodyPost_ret (v := .agg #[.int .i64 2, .slice none 0 0, .slice none 0 0, .int .i64 (l.length : Int), .slice (some ⟨bn, 0, none⟩) (n1 + 1) (n1 + 1), .slice (some ⟨bi, 0, none⟩) (n1 + 1) (n1 + 1)]) (by simp [results, Tryz.results30, go_sem, e0, e1, e2, e3, e4, e5]) rfl ⟨⟨bn, 0, none⟩, ⟨bi, 0, none⟩, ⟨show w.heap.size ≤ bn by omega, show w.heap.size ≤ bi by omega⟩, rfl, ?_, ?_, FK⟩
        · exact (rd_row FB).congr fun i hi => by rw [if_pos hi]
        · exact (rd_row FI).congr fun i hi => by rw [if_pos hi]
end Go.Proofs.YtdhgaogjdjhokaaGreatDoor
