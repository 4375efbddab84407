/- The contract of zzView: the plain-data view of an answer. -/
import Derived.Test.YtdhgaogjdjhokaaGreatDoorDoc
import Derived.BigRegion
import Derived.Deep.DeepCutAuto
namespace Go.Proofs.YtdhgaogjdjhokaaGreatDoor
open Go.RowKit Go.Gq
set_option maxRecDepth 100000
/-- The view that holds a kind alone. -/
def kindAgg (k : Int) : Value := .agg #[.int .i64 k, .slice none 0 0, .slice none 0 0, .int .i64 0, .slice none 0 0, .slice none 0 0]
set_option maxHeartbeats 400000 in
theorem zzView_nil (a1 : Option Addr) (n1 c1 : Nat) (key : ByteArray) (w : World) :
    Calls Tryz.prog 30 #[.nilIface, .slice a1 n1 c1, .string key] w fun e w' => e = .returned (kindAgg 0) ∧ Kept w w' := by
  go_enter Tryz.func30, Tryz.ntmps30
  go_wp2
  refine bodyPost_ret (v := kindAgg 0) (by simp [results, Tryz.results30, go_sem, kindAgg]) rfl ⟨rfl, ?_⟩
  exact kept_alloc _ _
set_option maxHeartbeats 400000 in
theorem zzView_wrap_ain (b : Nat) (x : Option Addr) (a1 : Option Addr) (n1 c1 : Nat) (key : ByteArray) (w : World) (h : w.cell? ⟨b, 4, none⟩ = some (.iface 66 (.pointer x))) :
    Calls Tryz.prog 30 #[.iface 61 (.pointer (some ⟨b, 0, none⟩)), .slice a1 n1 c1, .string key] w fun e w' => e = .returned (kindAgg 10) ∧ Kept w w' := by
  have hb : b < w.heap.size := cell_lt h
  go_enter Tryz.func30, Tryz.ntmps30
  go_wp2
  refine bodyPost_ret (v := kindAgg 10) (by simp [results, Tryz.results30, go_sem, kindAgg]) rfl ⟨rfl, ?_⟩
  exact kept_alloc _ _

/-- An int or null as an any. -/
def oi : Option Int → Value
  | none => .nilIface
  | some z => ia z
theorem make_ints (n : Nat) (hn : n ≤ 17179869184) (w : World) :
    (Instr.makeSlice 22 (.int .i64 (n : Int)) (.int .i64 (n : Int))).run Tryz.prog w = .ok (.slice (some ⟨w.heap.size, 0, none⟩) n n) (w.alloc (.cells (madeCells #[.int .i64 0] n) 3)) :=
  run_make_row' (P := Tryz.prog) 22 3 _ _ Tryz.underlying22 infoInt rfl .i64 .i64 n (by omega) (by omega) w
theorem make_bools (n : Nat) (hn : n ≤ 17179869184) (w : World) :
    (Instr.makeSlice 29 (.int .i64 (n : Int)) (.int .i64 (n : Int))).run Tryz.prog w = .ok (.slice (some ⟨w.heap.size, 0, none⟩) n n) (w.alloc (.cells (madeCells #[.bool false] n) 4)) :=
  run_make_row' (P := Tryz.prog) 29 4 _ _ Tryz.underlying29 infoBool rfl .i64 .i64 n (by omega) (by omega) w
set_option maxHeartbeats 4000000 in
theorem zzView_arr (sa : Option Addr) (n sc : Nat) (g : Nat → Option Int) (a1 : Option Addr) (n1 c1 : Nat) (key : ByteArray) (w : World) (h : Rd w sa n (fun i => oi (g i))) (hn : n ≤ 1048576) :
    Calls Tryz.prog 30 #[.iface 55 (.slice sa n sc), .slice a1 n1 c1, .string key] w fun e w' => ∃ ai an, (w.heap.size ≤ ai.block ∧ w.heap.size ≤ an.block) ∧ e = .returned (.agg #[.int .i64 1, .slice (some ai) n n, .slice (some an) n n, .int .i64 0, .slice none 0 0, .slice none 0 0]) ∧
      Rd w' (some ai) n (fun i => .int .i64 ((g i).getD 0)) ∧ Rd w' (some an) n (fun i => .bool (g i).isNone) ∧ Kept w w' := by
  have hm1 := make_ints n (by omega)
  have hm2 := make_bools n (by omega)
  have hs := World.size_alloc w (.cells #[.int .i64 0, .slice none 0 0, .slice none 0 0, .int .i64 0, .slice none 0 0, .slice none 0 0] 31)
  have Hs := Lib.hid hs
  clear hs
  go_enter Tryz.func30, Tryz.ntmps30
  go_upto_region 7 with fail
  go_cut [9] (fun s9 wx => ∃ bs bi bn, s9 = .pointer (some ⟨bs, 0, none⟩) ∧ wx.rowIs bs 31 6 (fun j => [Value.int .i64 1, .slice (some ⟨bi, 0, none⟩) n n, .slice (some ⟨bn, 0, none⟩) n n, .int .i64 0, .slice none 0 0, .slice none 0 0].getD j undef) ∧
    wx.rowIs bi 3 n (fun _ => .int .i64 0) ∧ wx.rowIs bn 4 n (fun _ => .bool false) ∧ w.heap.size + 1 ≤ bs ∧ w.heap.size + 1 ≤ bi ∧ w.heap.size + 1 ≤ bn ∧ bs ≠ bi ∧ bs ≠ bn ∧ bi ≠ bn ∧ Kept w wx ∧ wx.rowIs w.heap.size 31 6 (fun j => [Value.int .i64 0, .slice none 0 0, .slice none 0 0, .int .i64 0, .slice none 0 0, .slice none 0 0].getD j undef))
  case first =>
    go_region
    all_goals (go_wp2_with fail; go_meet)
    all_goals first | exact ⟨w.heap.size + 1, w.heap.size + 1 + 1, w.heap.size + 1 + 1 + 1, rfl, row_of (l := [_, _, _, _, _, _]) (heap3_1 Hs.out), row_made (heap3_2 Hs.out), row_made (heap3_3 Hs.out), by omega, by omega, by omega, by omega, by omega, by omega, kept3, (row_of (l := [_, _, _, _, _, _]) (heap_alloc_new w _)).of_block (heap3_0 Hs.out)⟩ | exact ⟨w.heap.size + 1, w.heap.size + 1 + 1 + 1, w.heap.size + 1 + 1, rfl, row_of (l := [_, _, _, _, _, _]) (heap3_1 Hs.out), row_made (heap3_3 Hs.out), row_made (heap3_2 Hs.out), by omega, by omega, by omega, by omega, by omega, by omega, kept3, (row_of (l := [_, _, _, _, _, _]) (heap_alloc_new w _)).of_block (heap3_0 Hs.out)⟩ | exact ⟨w.heap.size + 1 + 1, w.heap.size + 1, w.heap.size + 1 + 1 + 1, rfl, row_of (l := [_, _, _, _, _, _]) (heap3_2 Hs.out), row_made (heap3_1 Hs.out), row_made (heap3_3 Hs.out), by omega, by omega, by omega, by omega, by omega, by omega, kept3, (row_of (l := [_, _, _, _, _, _]) (heap_alloc_new w _)).of_block (heap3_0 Hs.out)⟩ | exact ⟨w.heap.size + 1 + 1 + 1, w.heap.size + 1, w.heap.size + 1 + 1, rfl, row_of (l := [_, _, _, _, _, _]) (heap3_3 Hs.out), row_made (heap3_1 Hs.out), row_made (heap3_2 Hs.out), by omega, by omega, by omega, by omega, by omega, by omega, kept3, (row_of (l := [_, _, _, _, _, _]) (heap_alloc_new w _)).of_block (heap3_0 Hs.out)⟩ | exact ⟨w.heap.size + 1 + 1, w.heap.size + 1 + 1 + 1, w.heap.size + 1, rfl, row_of (l := [_, _, _, _, _, _]) (heap3_2 Hs.out), row_made (heap3_3 Hs.out), row_made (heap3_1 Hs.out), by omega, by omega, by omega, by omega, by omega, by omega, kept3, (row_of (l := [_, _, _, _, _, _]) (heap_alloc_new w _)).of_block (heap3_0 Hs.out)⟩ | exact ⟨w.heap.size + 1 + 1 + 1, w.heap.size + 1 + 1, w.heap.size + 1, rfl, row_of (l := [_, _, _, _, _, _]) (heap3_3 Hs.out), row_made (heap3_2 Hs.out), row_made (heap3_1 Hs.out), by omega, by omega, by omega, by omega, by omega, by omega, kept3, (row_of (l := [_, _, _, _, _, _]) (heap_alloc_new w _)).of_block (heap3_0 Hs.out)⟩
  case rest =>
    clear hm1 hm2
    obtain ⟨bs, bi, bn, rfl, hS, hI, hB, q1, q2, q3, q4, q5, q6, hkc, hR⟩ := hcut
    go_wp2_with fail
    go_loopw [10] (fun i wr => ∃ k : Nat, k ≤ n ∧ i = .int .i64 k ∧ wr.rowIs bs 31 6 (fun j => [Value.int .i64 1, .slice (some ⟨bi, 0, none⟩) n n, .slice (some ⟨bn, 0, none⟩) n n, .int .i64 0, .slice none 0 0, .slice none 0 0].getD j undef) ∧
      wr.rowIs bi 3 n (fun j => if j < k then .int .i64 ((g j).getD 0) else .int .i64 0) ∧ wr.rowIs bn 4 n (fun j => if j < k then .bool (g j).isNone else .bool false) ∧ Kept w wr ∧
      wr.rowIs w.heap.size 31 6 (fun j => [Value.int .i64 0, .slice none 0 0, .slice none 0 0, .int .i64 0, .slice none 0 0, .slice none 0 0].getD j undef)) (fun i _ => n - (intOf i).toNat)
    case atStart => exact ⟨0, Nat.zero_le _, rfl, hS, by simpa using hI, by simpa using hB, hkc, hR⟩
    case round =>
      clear hS hI hB hkc hR
      obtain ⟨k, hk, rfl, hS, hI, hB, hkc, hR⟩ := hrel
      by_cases hlt : k < n
      · obtain ⟨b, off, rfl, hc⟩ := (h.kept hkc).at hlt
        have c1 := hS.cell (i := 1) (by omega)
        have c2 := hS.cell (i := 2) (by omega)
        simp only [List.getD_cons_succ, List.getD_cons_zero] at c1 c2
        cases hg : g k with
        | none =>
          have hd := hB.cell hlt
          have hz := hB.frozen k
          have hset := (hB.set k (.bool true)).congr (g := fun j => if j < k + 1 then .bool (g j).isNone else .bool false) (fun j hj => by
            by_cases e : j = k
            · subst e; simp [hg]
            · simp only [if_neg e]; by_cases e2 : j < k
              · rw [if_pos e2, if_pos (by omega)]
              · rw [if_neg e2, if_neg (by omega)])
          have hI2 := (hI.setOther (a := ⟨bn, k, none⟩) q6 (.bool true)).congr (g := fun j => if j < k + 1 then .int .i64 ((g j).getD 0) else .int .i64 0) (fun j hj => by
            by_cases e : j = k
            · subst e; simp [hg]
            · by_cases e2 : j < k
              · rw [if_pos e2, if_pos (by omega)]
              · rw [if_neg e2, if_neg (by omega)])
          have hS2 := hS.setOther (a := ⟨bn, k, none⟩) q5 (.bool true)
          have hR2 := hR.setOther (a := ⟨bn, k, none⟩) (by show w.heap.size ≠ bn; omega) (.bool true)
          have hk2 := Below.setCell hkc (p := ⟨bn, k, none⟩) (show w.heap.size ≤ bn by omega) (.bool true)
          have HH : Hid (_ ∧ _ ∧ _ ∧ _ ∧ _) := ⟨hset, hI2, hS2, hR2, hk2⟩
          simp only [oi, hg] at hc
          simp only [Nat.lt_irrefl, if_false] at hd
          clear hset hI2 hS2 hR2 hk2 hS hI hB hkc hR h hg
          go_wp2
          go_roundw
          case rel => exact ⟨k + 1, by omega, by go_num, HH.out.2.2.1, HH.out.2.1, HH.out.1, HH.out.2.2.2.2, HH.out.2.2.2.1⟩
          case measure => simp [intOf]; omega
        | some z =>
          have hd := hI.cell hlt
          have hz := hI.frozen k
          have hset := (hI.set k (.int .i64 z)).congr (g := fun j => if j < k + 1 then .int .i64 ((g j).getD 0) else .int .i64 0) (fun j hj => by
            by_cases e : j = k
            · subst e; simp [hg]
            · simp only [if_neg e]; by_cases e2 : j < k
              · rw [if_pos e2, if_pos (by omega)]
              · rw [if_neg e2, if_neg (by omega)])
          have hB2 := (hB.setOther (a := ⟨bi, k, none⟩) (Ne.symm q6) (.int .i64 z)).congr (g := fun j => if j < k + 1 then .bool (g j).isNone else .bool false) (fun j hj => by
            by_cases e : j = k
            · subst e; simp [hg]
            · by_cases e2 : j < k
              · rw [if_pos e2, if_pos (by omega)]
              · rw [if_neg e2, if_neg (by omega)])
          have hS2 := hS.setOther (a := ⟨bi, k, none⟩) q4 (.int .i64 z)
          have hR2 := hR.setOther (a := ⟨bi, k, none⟩) (by show w.heap.size ≠ bi; omega) (.int .i64 z)
          have hk2 := Below.setCell hkc (p := ⟨bi, k, none⟩) (show w.heap.size ≤ bi by omega) (.int .i64 z)
          have HH : Hid (_ ∧ _ ∧ _ ∧ _ ∧ _) := ⟨hset, hB2, hS2, hR2, hk2⟩
          simp only [oi, ia, hg] at hc
          simp only [Nat.lt_irrefl, if_false] at hd
          clear hset hB2 hS2 hR2 hk2 hS hI hB hkc hR h hg
          go_wp2
          go_roundw
          case rel => exact ⟨k + 1, by omega, by go_num, HH.out.2.2.1, HH.out.1, HH.out.2.1, HH.out.2.2.2.2, HH.out.2.2.2.1⟩
          case measure => simp [intOf]; omega
      · have : k = n := by omega
        subst this
        have c0 := hS.cell (i := 0) (by omega)
        have c1 := hS.cell (i := 1) (by omega)
        have c2 := hS.cell (i := 2) (by omega)
        have c3 := hS.cell (i := 3) (by omega)
        have c4 := hS.cell (i := 4) (by omega)
        have c5 := hS.cell (i := 5) (by omega)
        have r0 := hR.cell (i := 0) (by omega)
        have r1 := hR.cell (i := 1) (by omega)
        have r2 := hR.cell (i := 2) (by omega)
        have r3 := hR.cell (i := 3) (by omega)
        have r4 := hR.cell (i := 4) (by omega)
        have r5 := hR.cell (i := 5) (by omega)
        have z0 := hR.frozen 0
        have z1 := hR.frozen 1
        have z2 := hR.frozen 2
        have z3 := hR.frozen 3
        have z4 := hR.frozen 4
        have z5 := hR.frozen 5
        simp only [List.getD_cons_succ, List.getD_cons_zero] at c0 c1 c2 c3 c4 c5 r0 r1 r2 r3 r4 r5
        have HI := Lib.hid hI
        have HB := Lib.hid hB
        have HK := Lib.hid hkc
        have HR := Lib.hid hR
        clear hI hB hkc hS hR h
        go_wp2
        have F := six_row HR.out (.int .i64 1) (.slice (some ⟨bi, 0, none⟩) k k) (.slice (some ⟨bn, 0, none⟩) k k) (.int .i64 0) (.slice none 0 0) (.slice none 0 0)
        have FI := six_other HI.out (show bi ≠ w.heap.size by omega) (.int .i64 1) (.slice (some ⟨bi, 0, none⟩) k k) (.slice (some ⟨bn, 0, none⟩) k k) (.int .i64 0) (.slice none 0 0) (.slice none 0 0)
        have FB := six_other HB.out (show bn ≠ w.heap.size by omega) (.int .i64 1) (.slice (some ⟨bi, 0, none⟩) k k) (.slice (some ⟨bn, 0, none⟩) k k) (.int .i64 0) (.slice none 0 0) (.slice none 0 0)
        have FK := six_below HK.out (Nat.le_refl w.heap.size) (.int .i64 1) (.slice (some ⟨bi, 0, none⟩) k k) (.slice (some ⟨bn, 0, none⟩) k k) (.int .i64 0) (.slice none 0 0) (.slice none 0 0)
        generalize hW : six wr w.heap.size (.int .i64 1) (.slice (some ⟨bi, 0, none⟩) k k) (.slice (some ⟨bn, 0, none⟩) k k) (.int .i64 0) (.slice none 0 0) (.slice none 0 0) = W at F FI FB FK
        unfold six at hW
        rw [hW]
        have e0 := F.cell (i := 0) (by omega)
        have e1 := F.cell (i := 1) (by omega)
        have e2 := F.cell (i := 2) (by omega)
        have e3 := F.cell (i := 3) (by omega)
        have e4 := F.cell (i := 4) (by omega)
        have e5 := F.cell (i := 5) (by omega)
        simp only [List.getD_cons_succ, List.getD_cons_zero] at e0 e1 e2 e3 e4 e5
        refine bodyPost_ret (v := .agg #[.int .i64 1, .slice (some ⟨bi, 0, none⟩) k k, .slice (some ⟨bn, 0, none⟩) k k, .int .i64 0, .slice none 0 0, .slice none 0 0]) (by simp [results, Tryz.results30, go_sem, e0, e1, e2, e3, e4, e5]) rfl ⟨⟨bi, 0, none⟩, ⟨bn, 0, none⟩, ⟨show w.heap.size ≤ bi by omega, show w.heap.size ≤ bn by omega⟩, rfl, ?_, ?_, FK⟩
        · exact (rd_row FI).congr fun i hi => by rw [if_pos hi]
        · exact (rd_row FB).congr fun i hi => by rw [if_pos hi]
end Go.Proofs.YtdhgaogjdjhokaaGreatDoor
