/- The contracts of (allocator).makeArray, (allocator).makeObject and maps.Copy. -/
import Derived.Test.YtdlmdmpkjhnbmaaGreatDoorUpd
namespace Go.Proofs.YtdlmdmpkjhnbmaaGreatDoor
open Go.RowKit Go.Gq
set_option maxRecDepth 100000
theorem infoAny : (Tryz.prog.info? 20).map (fun i => (i.zero, i.size, i.bytes)) = some (some .nilIface, 1, 16) := by kernel_rfl
theorem infoInt : (Tryz.prog.info? 3).map (fun i => (i.zero, i.size, i.bytes)) = some (some (.int .i64 0), 1, 8) := by kernel_rfl
theorem infoStr : (Tryz.prog.info? 9).map (fun i => (i.zero, i.size, i.bytes)) = some (some (.string ⟨#[]⟩), 1, 16) := by kernel_rfl
theorem infoBool : (Tryz.prog.info? 4).map (fun i => (i.zero, i.size, i.bytes)) = some (some (.bool false), 1, 1) := by kernel_rfl
/-- make([]any, l, c). -/
theorem make_any (l c : Nat) (hl : l ≤ c) (hc : c ≤ 17179869184) (w : World) :
    (Instr.makeSlice 92 (.int .i64 (l : Int)) (.int .i64 (c : Int))).run Tryz.prog w = .ok (.slice (some ⟨w.heap.size, 0, none⟩) l c) (w.alloc (.cells (madeCells #[.nilIface] c) 20)) := by
  obtain ⟨i, hi, hzz⟩ := Option.map_eq_some_iff.1 infoAny
  simp only [Prod.mk.injEq] at hzz
  obtain ⟨hz, hs, hb⟩ := hzz
  have hr := run_make (P := Tryz.prog) w 92 20 i .nilIface Tryz.underlying92 hi hz .i64 .i64 l c (by omega) (by omega) (by rw [hb]; omega) (by omega)
  simp only [Int.toNat_natCast, hs, Nat.mul_one] at hr
  exact hr
/-- What the allocator holds behind a make. -/
def allocBehind (m : Option Nat) (v : Value) : List (Int × Value) := match m with | none => [] | some _ => [(0, v)]
set_option maxHeartbeats 400000 in
theorem makeArray_any (m : Option Nat) (l c : Nat) (M : Nat) (hM : M = max l c) (hM2 : M ≤ 17179869184) (w : World) (h : AllocIs w m []) (li ci : Int) (hli : li = l) (hci : ci = c) :
    Calls Tryz.prog 53 #[.map m, .int .i64 li, .int .i64 ci] w fun e w' => ∃ b, e = .returned (.slice (some ⟨b, 0, none⟩) l M) ∧ w.heap.size ≤ b ∧ w'.rowIs b 20 M (fun _ => .nilIface) ∧
      Keep (fun i => m = some i) w w' ∧ AllocIs w' m (allocBehind m (.iface 92 (.slice (some ⟨b, 0, none⟩) l M))) := by
  subst hli hci
  have hmax : ∀ W : World, (Builtin.max_ #[3, 3] 3 #[.int .i64 (l : Int), .int .i64 (c : Int)]).run Tryz.prog W = .ok (.int .i64 (M : Int)) W := fun W => by
    rw [run_max_int2]
    congr 2
    rcases Nat.lt_or_ge l c with h | h
    · rw [if_pos (by omega), hM, Nat.max_eq_right (by omega)]
    · rw [if_neg (by omega), hM, Nat.max_eq_left (by omega)]
  have hmk := make_any l M (by omega) hM2
  have HM := Lib.hid hM
  clear hM
  obtain ⟨W, HW⟩ : ∃ W : World, W = w.alloc (.cells (madeCells #[.nilIface] M) 20) := ⟨_, rfl⟩
  have hrow : W.rowIs w.heap.size 20 M (fun _ => .nilIface) := by rw [HW]; exact World.rowIs_made w _ M 20
  have hk : Kept w W := by rw [HW]; exact kept_alloc _ _
  rcases h with ⟨rfl, _⟩ | ⟨b, rfl, hm⟩
  · have HW' := HW.symm
    clear HW
    go_enter Tryz.func53, Tryz.ntmps53
    go_wp2_with fail
    go_ret
    exact ⟨w.heap.size, rfl, Nat.le_refl _, hrow, keep_of_below _ hk, .inl ⟨rfl, rfl⟩⟩
  · have hm1 : W.MapIs intKey b [] := mapIs_of_block intKey hm (hk.block b (mapIs_lt intKey hm))
    have hbw := mapIs_lt intKey hm
    have HW' := HW.symm
    clear HW
    go_enter Tryz.func53, Tryz.ntmps53
    go_wp2_with fail
    refine (allocated_none (some b) _ W (.inr ⟨b, rfl, hm1⟩)).mono ?_
    rintro e w2 ⟨rfl, hk2⟩
    have hm2 : w2.MapIs intKey b [] := mapIs_of_block intKey hm1 (hk2.block b (mapIs_lt intKey hm1))
    obtain ⟨w3, hup, hm3, ho⟩ := run_mapUpdate_assoc intKey Tryz.underlying108 Tryz.underlying3 w2 hm2 0 (.iface 92 (.slice (some ⟨w.heap.size, 0, none⟩) l M))
    have hlen := fun ty => run_len_assoc intKey (P := Tryz.prog) Tryz.underlying108 w2 hm2 ty
    simp only [intKey] at hup
    simp only [List.length_nil, Int.natCast_zero] at hlen
    go_wp2_with fail
    go_ret
    refine ⟨w.heap.size, rfl, Nat.le_refl _, ?_, ?_, .inr ⟨b, rfl, hm3⟩⟩
    · exact (rowIs_kept hrow hk2).of_block (ho.block _ (by omega))
    · exact ((keep_of_below _ hk).trans (keep_of_below _ hk2)).trans (keep_of_only ho rfl)
set_option maxHeartbeats 400000 in
theorem makeObject_any (m : Option Nat) (l : Int) (w : World) (h : AllocIs w m []) :
    Calls Tryz.prog 47 #[.map m, .int .i64 l] w fun e w' => ∃ b, e = .returned (.map (some b)) ∧ w.heap.size ≤ b ∧ w'.MapIs strKey b [] ∧
      Keep (fun i => m = some i) w w' ∧ AllocIs w' m (allocBehind m (.iface 84 (.map (some b)))) := by
  have hmm : ∀ W : World, (Instr.makeMap 84 (some (.int .i64 l))).run Tryz.prog W = .ok (.map (some W.heap.size)) (W.alloc (.map #[] 0)) := fun W => by
    simp [Instr.makeMap, run_underlying Tryz.underlying84, asInt, asIntOf]
  obtain ⟨W, HW⟩ : ∃ W : World, W = w.alloc (.map #[] 0) := ⟨_, rfl⟩
  have hrow : W.MapIs strKey w.heap.size [] := by rw [HW]; exact mapIs_new strKey w
  have hk : Kept w W := by rw [HW]; exact kept_alloc _ _
  rcases h with ⟨rfl, _⟩ | ⟨b, rfl, hm⟩
  · have HW' := HW.symm
    clear HW
    go_enter Tryz.func47, Tryz.ntmps47
    go_wp2_with fail
    go_ret
    exact ⟨w.heap.size, rfl, Nat.le_refl _, hrow, keep_of_below _ hk, .inl ⟨rfl, rfl⟩⟩
  · have hm1 : W.MapIs intKey b [] := mapIs_of_block intKey hm (hk.block b (mapIs_lt intKey hm))
    have hbw := mapIs_lt intKey hm
    have HW' := HW.symm
    clear HW
    go_enter Tryz.func47, Tryz.ntmps47
    go_wp2_with fail
    refine (allocated_none (some b) _ W (.inr ⟨b, rfl, hm1⟩)).mono ?_
    rintro e w2 ⟨rfl, hk2⟩
    have hm2 : w2.MapIs intKey b [] := mapIs_of_block intKey hm1 (hk2.block b (mapIs_lt intKey hm1))
    obtain ⟨w3, hup, hm3, ho⟩ := run_mapUpdate_assoc intKey Tryz.underlying108 Tryz.underlying3 w2 hm2 0 (.iface 84 (.map (some w.heap.size)))
    have hlen := fun ty => run_len_assoc intKey (P := Tryz.prog) Tryz.underlying108 w2 hm2 ty
    simp only [intKey] at hup
    simp only [List.length_nil, Int.natCast_zero] at hlen
    go_wp2_with fail
    go_ret
    refine ⟨w.heap.size, rfl, Nat.le_refl _, ?_, ?_, .inr ⟨b, rfl, hm3⟩⟩
    · exact mapIs_of_block strKey (mapIs_of_block strKey hrow (hk2.block _ (mapIs_lt strKey hrow))) (ho.block _ (by omega))
    · exact ((keep_of_below _ hk).trans (keep_of_below _ hk2)).trans (keep_of_only ho rfl)

set_option maxHeartbeats 800000 in
/-- maps.Copy into another map: behind it the target holds what the source holds, and, beside that, what it held. -/
theorem copy_any (d b : Nat) (l D0 : List (ByteArray × Value)) (w : World) (hd : w.MapIs strKey d D0) (hb : w.MapIs strKey b l) (hne : d ≠ b) :
    Calls Tryz.prog 48 #[.map (some d), .map (some b)] w fun e w' => e = .returned (.tuple #[]) ∧ Keep (· = d) w w' ∧
      ∃ D, w'.MapIs strKey d D ∧ ∀ x, lkp x D = if (lkp x l).isSome then lkp x l else lkp x D0 := by
  obtain ⟨o, hr, hit⟩ := run_range_assoc strKey (P := Tryz.prog) Tryz.underlying84 w hb
  have hdl := mapIs_lt strKey hd
  have hbl := mapIs_lt strKey hb
  go_enter Tryz.func48, Tryz.ntmps48
  go_wp2
  obtain ⟨W, HW⟩ : ∃ W : World, W = w.alloc o := ⟨_, rfl⟩
  have hk : Kept w W := by rw [HW]; exact kept_alloc _ _
  have hd0 : W.MapIs strKey d D0 := mapIs_of_block strKey hd (hk.block _ hdl)
  rw [← HW] at hit ⊢
  clear HW hr hd hb
  go_loopg [4, 5] l.length (fun g (_ : Value) (_ : Value) wr => ∃ (done : List ByteArray) (D : List (ByteArray × Value)), wr.IterIs strKey w.heap.size b done l ∧ wr.MapIs strKey d D ∧ Hid (done.length + g = l.length) ∧ Hid (done.Nodup ∧ (∀ x ∈ done, x ∈ l.map (·.1)) ∧ (∀ x, (x ∈ done → lkp x D = lkp x l) ∧ (x ∉ done → lkp x D = lkp x D0))) ∧ Keep (· = d) w wr)
  case atStart => exact ⟨[], D0, hit, hd0, by simp [Hid], by simp [Hid], keep_of_below _ hk⟩
  case round =>
    clear hit hd0 hk
    obtain ⟨done, D, hit, hmd, hlen, hinv, hkeep⟩ := hrel
    rcases run_next_assoc strKey (P := Tryz.prog) wr hit with ⟨hall, hn⟩ | ⟨k, v, w1, hknd, hlk, hn, hit1, ho1, hen⟩
    · have Hall := Lib.hid hall
      clear hall
      go_wp2
      go_end0
      refine ⟨rfl, hkeep, D, hmd, fun x => ?_⟩
      obtain ⟨_, hsub, hl⟩ := hinv.out
      by_cases hx : x ∈ done
      · rw [(hl x).1 hx, if_pos ((mem_keys x l).1 (hsub x hx))]
      · have : lkp x l = none := lkp_none _ _ fun h => hx (Hall.out x h)
        rw [(hl x).2 hx, this]; rfl
    · have hmd1 : w1.MapIs strKey d D := mapIs_of_block strKey hmd (ho1.block _ (by omega))
      obtain ⟨w2, hup, hmd2, ho2⟩ := run_mapUpdate_assoc strKey Tryz.underlying84 Tryz.underlying9 w1 hmd1 k v
      have hit2 : w2.IterIs strKey w.heap.size b (done ++ [k]) l := iterIs_of_block strKey hit1 (ho2.block _ (by omega)) (ho2.block _ (by omega))
      have hkeep2 : Keep (· = d) w w2 := by
        refine ⟨?_, ?_, ?_, ?_, ?_⟩
        · rw [ho2.os, ho1.os, hkeep.os]
        · rw [ho2.tape, ho1.tape, hkeep.tape]
        · rw [ho2.output, ho1.output, hkeep.output]
        · rw [ho2.size, ho1.size]; exact hkeep.size
        · intro i hi hn
          rw [ho2.block i hn, ho1.block i (by omega), hkeep.block i hi hn]
      obtain ⟨hnd, hsub, hl⟩ := hinv.out
      have hkl : k ∈ l.map (·.1) := (mem_keys k l).2 (by rw [hlk]; rfl)
      have Hnd : (done ++ [k]).Nodup := by
        rw [List.nodup_append]
        exact ⟨hnd, by simp, fun a ha c hc e => hknd (by simp at hc; rw [← hc, ← e]; exact ha)⟩
      have Hsub : ∀ x ∈ done ++ [k], x ∈ l.map (·.1) := fun x hx => by
        rcases List.mem_append.1 hx with h | h
        · exact hsub x h
        · simp at h; subst h; exact hkl
      have Hle := nodup_len _ _ Hnd Hsub
      simp only [List.length_append, List.length_cons, List.length_nil, List.length_map] at Hle
      have Hlen := hlen.out
      have HJ : Hid (gk - 1 < gk ∧ (done ++ [k]).length + (gk - 1) = l.length) := ⟨by omega, by simp; omega⟩
      have HI : Hid ((done ++ [k]).Nodup ∧ (∀ x ∈ done ++ [k], x ∈ l.map (·.1)) ∧ (∀ x, (x ∈ done ++ [k] → lkp x (aput k v D) = lkp x l) ∧ (x ∉ done ++ [k] → lkp x (aput k v D) = lkp x D0))) := by
        refine ⟨Hnd, Hsub, fun x => ⟨fun hx => ?_, fun hx => ?_⟩⟩
        · rw [lkp_aput]
          by_cases e : x = k
          · rw [if_pos e, e, hlk]
          · rw [if_neg e]
            rcases List.mem_append.1 hx with h | h
            · exact (hl x).1 h
            · exact absurd (by simpa using h) e
        · rw [lkp_aput, if_neg (fun e => hx (by rw [e]; simp))]
          exact (hl x).2 fun h => hx (by simp [h])
      simp only [strKey] at hup hn hen
      clear hlk hknd hkl Hnd Hsub Hle Hlen hnd hsub hl hlen hinv hit hmd hit1 hmd1 hkeep ho1 ho2 hdl hbl
      go_wp2
      go_roundg (gk - 1)
      case measure => exact HJ.out.1
      case rel => exact ⟨_, _, hit2, hmd2, HJ.out.2, HI.out, hkeep2⟩

/-- maps.Copy of the nil map. -/
theorem copy_nil (d : Nat) (D0 : List (ByteArray × Value)) (w : World) (hd : w.MapIs strKey d D0) :
    Calls Tryz.prog 48 #[.map (some d), .map none] w fun e w' => e = .returned (.tuple #[]) ∧ Keep (· = d) w w' ∧
      ∃ D, w'.MapIs strKey d D ∧ ∀ x, lkp x D = lkp x D0 := by
  have hr := run_range_nilMap (P := Tryz.prog) w 84 9 20 Tryz.underlying84
  have hn := fun ty => run_next_nilMap (P := Tryz.prog) w ty 0 0 #[]
  have hdl := mapIs_lt strKey hd
  obtain ⟨W, HW⟩ : ∃ W : World, W = w.alloc (.mapIter none 0 #[] 0) := ⟨_, rfl⟩
  have hk : Kept w W := by rw [HW]; exact kept_alloc _ _
  have hd0 : W.MapIs strKey d D0 := mapIs_of_block strKey hd (hk.block _ hdl)
  clear hdl hd
  go_enter Tryz.func48, Tryz.ntmps48
  go_wp2
  rw [← HW] at hn ⊢
  clear HW hr
  go_loopw [4, 5] (fun _ _ wr => wr = W) (fun _ _ _ => 0)
  case atStart => rfl
  case round =>
    subst hrel
    go_wp2
    go_end0
    exact ⟨rfl, keep_of_below _ hk, D0, hd0, fun _ => rfl⟩
end Go.Proofs.YtdlmdmpkjhnbmaaGreatDoor
