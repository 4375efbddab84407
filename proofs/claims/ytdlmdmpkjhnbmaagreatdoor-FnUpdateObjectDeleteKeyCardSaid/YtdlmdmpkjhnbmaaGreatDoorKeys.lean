/- keys: an object's keys, each once, sorted; the object of ints that the laws read. -/
import Derived.Test.YtdlmdmpkjhnbmaaGreatDoorObjs
import Derived.Test.YtdlmdmpkjhnbmaaGreatDoorSrt
import Derived.Sort.OwnSorted
namespace Go.Proofs.YtdlmdmpkjhnbmaaGreatDoor
open Go.RowKit Go.Gq
open Go.Sort
set_option maxRecDepth 100000
def SortOk : Prop := ∀ (blk off cap : Nat) (ss : List (List UInt8)) (w : World), Holds encStr w blk off ss.toArray → blk < w.heap.size → ss.length < 4611686018427387904 →
  Calls Tryz.prog 61 #[.slice (some ⟨blk, off, none⟩) ss.length cap] w fun e w' => e = .returned (.tuple #[]) ∧ ∃ n os, w' = grow (putRow encStr (Sort.ahead w n) blk off (ss.mergeSort fun x y => decide (x ≤ y)).toArray) os
/-- An object's keys: each once. -/
def KeysAns (l : List (ByteArray × Value)) (w : World) (e : Ending) (w' : World) : Prop :=
  ∃ (b : Nat) (F : Nat → ByteArray), e = .returned (.slice (some ⟨b, 0, none⟩) l.length l.length) ∧ Rd w' (some ⟨b, 0, none⟩) l.length (fun i => .string (F i)) ∧ (∀ i, i < l.length → (lkp (F i) l).isSome = true) ∧ (∀ x, (lkp x l).isSome = true → ∃ i, i < l.length ∧ F i = x) ∧ Kept w w'
set_option maxHeartbeats 2000000 in
theorem keys_obj (hsort : SortOk) (b : Nat) (l : List (ByteArray × Value)) (w : World) (hm : w.MapIs strKey b l) (hlen : l.length ≤ 1048576) :
    Calls Tryz.prog 49 #[.map (some b)] w (KeysAns l w) := by
  have hln := fun ty => run_len_assoc strKey (P := Tryz.prog) Tryz.underlying84 w hm ty
  have hmk := make_strs l.length l.length (Nat.le_refl _) (by omega) w
  obtain ⟨W, HW⟩ : ∃ W : World, W = w.alloc (.cells (madeCells #[Value.string ⟨#[]⟩] l.length) 9) := ⟨_, rfl⟩
  have hrow : W.rowIs w.heap.size 9 l.length (fun _ => Value.string ⟨#[]⟩) := by rw [HW]; exact World.rowIs_made w _ _ 9
  have hk0 : Kept w W := by rw [HW]; exact kept_alloc _ _
  have hsz : W.heap.size = w.heap.size + 1 := by rw [HW]; simp
  rw [← HW] at hmk
  have hmW := mapIs_of_block strKey hm (hk0.block _ (mapIs_lt strKey hm))
  obtain ⟨o, hr, hit⟩ := run_range_assoc strKey (P := Tryz.prog) Tryz.underlying84 W hmW
  obtain ⟨Y, HY⟩ : ∃ Y : World, Y = W.alloc o := ⟨_, rfl⟩
  have hk1 : Kept w Y := by rw [HY]; exact hk0.trans (kept_alloc _ _)
  have hrowY : Y.rowIs w.heap.size 9 l.length (fun _ => Value.string ⟨#[]⟩) := by rw [HY]; exact hrow.alloc o
  rw [← HY] at hr hit
  have HI := Lib.hid (And.intro hit (And.intro hrowY hk1))
  have Hbl := Lib.hid (mapIs_lt strKey hm)
  have Hsz := Lib.hid hsz
  have Hsort := Lib.hid hsort
  clear HW HY hm hrow hk0 hmW hit hrowY hk1 hsz hsort
  go_enter Tryz.func49, Tryz.ntmps49
  go_wp2
  go_loopg [4, 5] l.length (fun g (i : Value) (_ : Value) wr => ∃ (done : List ByteArray) (f : Nat → ByteArray), i = .int .i64 done.length ∧ Hid (done.length + g = l.length) ∧ Hid (wr.IterIs strKey W.heap.size b done l ∧ wr.rowIs w.heap.size 9 l.length (fun j => if j < done.length then Value.string (f j) else Value.string ⟨#[]⟩) ∧ Kept w wr ∧ done.Nodup ∧ (∀ x, x ∈ done ↔ ∃ t, t < done.length ∧ f t = x) ∧ (∀ x ∈ done, x ∈ l.map (·.1))))
  case atStart => exact ⟨[], fun _ => ⟨#[]⟩, rfl, by simp [Hid], HI.out.1, by simpa using HI.out.2.1, HI.out.2.2, by simp, by simp, by simp⟩
  case round =>
    obtain ⟨done, f, rfl, hlen, hinv⟩ := hrel
    obtain ⟨hit, hrow, hk, hnd, hf, hsub⟩ := hinv.out
    rcases run_next_assoc strKey (P := Tryz.prog) wr hit with ⟨hall, hn⟩ | ⟨k, v, w1, hknd, hlk, hn, hit1, ho1, hen⟩
    · have hdl : done.length = l.length := by
        have h1 := nodup_len _ _ hnd hsub
        have h2 := nodup_len _ _ (mapIs_nd strKey (IterIs.map strKey hit)) (fun x hx => hall x hx)
        simp only [List.length_map] at h1 h2
        omega
      have hrow' := hrow.congr (g := fun j => Value.string (f j)) (fun i hi => by simp [hdl, hi])
      obtain ⟨s1, s2, s3⟩ := sort_src (n := l.length) (f := f) (fun x y => decide (x ≤ y))
      have hcall := Hsort.out w.heap.size 0 l.length (srcOf l.length f) wr (holds_row hrow') hrow'.lt (by rw [srcOf_length]; omega)
      rw [srcOf_length] at hcall
      have HE : Hid (_ ∧ _ ∧ _) := Lib.hid (And.intro hrow' (And.intro hk (And.intro hall (And.intro hf (And.intro hsub (And.intro hdl (And.intro s1 (And.intro s2 s3))))))))
      clear hrow' hrow hk hall hf hsub hdl s1 s2 s3 hinv hit hnd HI
      go_wp2_with fail
      refine hcall.mono ?_
      rintro e w2 ⟨rfl, g, os, rfl⟩
      clear hcall
      go_wp2
      go_ret
      obtain ⟨hrow', hk, hall, hf, hsub, hdl, s1, s2, s3⟩ := HE.out
      refine ⟨_, _, rfl, sorted_row hrow' _ s1, fun i hi => ?_, fun x hx => ?_, sorted_below _ hk (Nat.le_refl _) (Nat.le_refl _)⟩
      · obtain ⟨t, ht, e⟩ := s2 i hi
        rw [e]
        exact (mem_keys _ _).1 (hsub _ ((hf _).2 ⟨t, by omega, rfl⟩))
      · obtain ⟨t, ht, e⟩ := (hf x).1 (hall x ((mem_keys _ _).2 hx))
        obtain ⟨i, hi, e2⟩ := s3 t (by omega)
        exact ⟨i, hi, by rw [e2, e]⟩
    · have hkl : k ∈ l.map (·.1) := (mem_keys k l).2 (by rw [hlk]; rfl)
      have Hnd : (done ++ [k]).Nodup := by
        rw [List.nodup_append]
        exact ⟨hnd, by simp, fun a ha c hc e => hknd (by simp at hc; rw [← hc, ← e]; exact ha)⟩
      have Hsub : ∀ x ∈ done ++ [k], x ∈ l.map (·.1) := fun x hx => by
        rcases List.mem_append.1 hx with h | h
        · exact hsub x h
        · simp at h; subst h; exact hkl
      have Hle := nodup_len _ _ Hnd Hsub
      simp only [List.length_append, List.length_cons, List.length_nil, List.length_map] at Hle
      have Hlen := hlen.out
      have hlt : done.length < l.length := by omega
      have hlt2 : (done.length : Int) < (l.length : Int) := by omega
      have hrow1 : w1.rowIs w.heap.size 9 l.length (fun j => if j < done.length then Value.string (f j) else Value.string ⟨#[]⟩) := hrow.of_block (ho1.block _ (by have := Hsz.out; omega))
      have hk1 : Kept w w1 := Below.trans hk (ho1.below (by have := Hsz.out; omega))
      have hd := hrow1.cell hlt
      have hz := hrow1.frozen done.length
      have hset := (hrow1.set done.length (Value.string k)).congr (g := fun j => if j < (done ++ [k]).length then Value.string (if j = done.length then k else f j) else Value.string ⟨#[]⟩) (fun j hj => by
        simp only [List.length_append, List.length_cons, List.length_nil]
        by_cases e : j = done.length
        · subst e; simp
        · simp only [if_neg e]; by_cases e2 : j < done.length
          · rw [if_pos e2, if_pos (by omega)]
          · rw [if_neg e2, if_neg (by omega)])
      have hkp2 := hk1.setCell (p := ⟨w.heap.size, done.length, none⟩) (Nat.le_refl _) (Value.string k)
      have hit2 : (w1.setCell ⟨w.heap.size, done.length, none⟩ (Value.string k)).IterIs strKey W.heap.size b (done ++ [k]) l :=
        iterIs_of_block strKey hit1 (Go.Deep.blk_setCell_other _ _ _ _ (by have := Hbl.out; simp; omega)) (Go.Deep.blk_setCell_other _ _ _ _ (by have := Hsz.out; simp; omega))
      have hf2 : ∀ x, x ∈ done ++ [k] ↔ ∃ t, t < (done ++ [k]).length ∧ (if t = done.length then k else f t) = x := fun x => by
        simp only [List.length_append, List.length_cons, List.length_nil, List.mem_append, List.mem_singleton]
        constructor
        · rintro (h | h)
          · obtain ⟨t, ht, e⟩ := (hf x).1 h
            exact ⟨t, by omega, by rw [if_neg (by omega)]; exact e⟩
          · exact ⟨done.length, by omega, by rw [if_pos rfl]; exact h.symm⟩
        · rintro ⟨t, ht, e⟩
          by_cases e2 : t = done.length
          · rw [if_pos e2] at e; exact .inr e.symm
          · rw [if_neg e2] at e; exact .inl ((hf x).2 ⟨t, by omega, e⟩)
      have HJ : Hid (gk - 1 < gk ∧ (done ++ [k]).length + (gk - 1) = l.length) := ⟨by omega, by simp; omega⟩
      have HN := Lib.hid (And.intro hit2 (And.intro hset (And.intro hkp2 (And.intro Hnd (And.intro hf2 Hsub)))))
      simp only [Nat.lt_irrefl, if_false] at hd
      simp only [strKey] at hn hen
      clear hit2 hset hkp2 Hnd hf2 Hsub Hle Hlen hlk hkl hknd hrow hrow1 hk hk1 hf hsub hnd hinv hit hit1 ho1 hlen HI
      go_wp2
      go_roundg (gk - 1)
      case measure => exact HJ.out.1
      case rel => exact ⟨_, _, by simp, HJ.out.2, HN.out⟩
end Go.Proofs.YtdlmdmpkjhnbmaaGreatDoor
