/- deleteEmpty at an object: what is marked is taken out, the rest stays. -/
import Derived.Test.YtdlmdmpkjhnbmaaGreatDoorMark
import Derived.Test.YtdlmdmpkjhnbmaaGreatDoorMapsb
namespace Go.Proofs.YtdlmdmpkjhnbmaaGreatDoor
open Go.RowKit Go.Gq
set_option maxRecDepth 100000
/-- What a sweep leaves of an entry. -/
noncomputable def sw (o : Option Value) : Option Value := @ite _ (o = some mk0) (Classical.propDecidable _) none o
theorem sw_mk : sw (some mk0) = none := by unfold sw; exact if_pos rfl
theorem sw_none : sw none = none := by unfold sw; split <;> rfl
theorem sw_ib (z : Int) : sw (some (ib z)) = some (ib z) := by
  unfold sw
  refine if_neg fun h => ?_
  injection h with h
  injection h with h1 h2
  cases h2
theorem delete_any (w w' : World) (a : Array Value) (t u0 ty0 : TypeId) (r : Value) (h : (Builtin.delete_ #[t, u0] ty0 a).run Tryz.prog w = .ok r w') (u ty : TypeId) : (Builtin.delete_ #[t, u] ty a).run Tryz.prog w = .ok r w' := h
set_option maxHeartbeats 2000000 in
theorem deleteEmpty_obj (b : Nat) (l : List (ByteArray × Value)) (w : World) (hm : w.MapIs strKey b l) (hl : ∀ x v, lkp x l = some v → ∃ o, v = mv o) :
    Calls Tryz.prog 40 #[.iface 84 (.map (some b))] w fun e w' => e = .returned (.iface 84 (.map (some b))) ∧ Keep (· = b) w w' ∧ ∃ D, w'.MapIs strKey b D ∧ ∀ x, lkp x D = sw (lkp x l) := by
  obtain ⟨o, hr, hit⟩ := run_range_assoc strKey (P := Tryz.prog) Tryz.underlying84 w hm
  have hbl := mapIs_lt strKey hm
  have HL := Lib.hid hl
  clear hl
  go_enter Tryz.func40, Tryz.ntmps40
  go_wp2
  obtain ⟨W, HW⟩ : ∃ W : World, W = w.alloc o := ⟨_, rfl⟩
  have hk : Kept w W := by rw [HW]; exact kept_alloc _ _
  rw [← HW] at hit ⊢
  clear HW hr hm
  go_loopg [5, 6] l.length (fun g (_ : Value) (_ : Value) wr => ∃ (done : List ByteArray) (D : List (ByteArray × Value)), wr.IterIs strKey w.heap.size b done D ∧ Hid (done.length + g = l.length) ∧ Hid (done.Nodup ∧ (∀ x ∈ done, x ∈ l.map (·.1)) ∧ (∀ x, (x ∈ done → lkp x D = sw (lkp x l)) ∧ (x ∉ done → lkp x D = lkp x l))) ∧ Keep (· = b) w wr)
  case atStart => exact ⟨[], l, hit, by simp [Hid], by simp [Hid], keep_of_below _ hk⟩
  case round =>
    clear hit hk
    obtain ⟨done, D, hit, hlen, hinv, hkeep⟩ := hrel
    rcases run_next_assoc strKey (P := Tryz.prog) wr hit with ⟨hall, hn⟩ | ⟨k, v, w1, hknd, hlk, hn, hit1, ho1, hen⟩
    · have Hall := Lib.hid hall
      clear hall
      go_wp2
      go_ret
      refine ⟨rfl, hkeep, D, IterIs.map strKey hit, fun x => ?_⟩
      obtain ⟨_, _, hx0⟩ := hinv.out
      by_cases hx : x ∈ done
      · exact (hx0 x).1 hx
      · have e : lkp x D = none := lkp_none _ _ fun h => hx (Hall.out x h)
        rw [e, ← (hx0 x).2 hx, e, sw_none]
    · obtain ⟨hnd, hsub, hx0⟩ := hinv.out
      have hlk0 : lkp k l = some v := by rw [← (hx0 k).2 hknd]; exact hlk
      have hkl : k ∈ l.map (·.1) := (mem_keys k l).2 (by rw [hlk0]; rfl)
      have hin : (lkp k D).isSome = true := by rw [hlk]; rfl
      have Hnd : (done ++ [k]).Nodup := by
        rw [List.nodup_append]
        exact ⟨hnd, by simp, fun a ha c hc e => hknd (by simp at hc; rw [← hc, ← e]; exact ha)⟩
      have Hsub : ∀ x ∈ done ++ [k], x ∈ l.map (·.1) := fun x hx => by
        rcases List.mem_append.1 hx with h | h
        · exact hsub x h
        · simp at h; subst h; exact hkl
      have Hle := nodup_len _ _ Hnd Hsub
      simp only [List.length_append, List.length_cons, List.length_nil, List.length_map] at Hle
      have Hlen := hlen.out
      have HJ : Hid (gk - 1 < gk ∧ (done ++ [k]).length + (gk - 1) = l.length) := ⟨by omega, by simp; omega⟩
      have hkp : ∀ w2, Only b w1 w2 → Keep (· = b) w w2 := fun w2 ho2 => by
        refine ⟨?_, ?_, ?_, ?_, ?_⟩
        · rw [ho2.os, ho1.os, hkeep.os]
        · rw [ho2.tape, ho1.tape, hkeep.tape]
        · rw [ho2.output, ho1.output, hkeep.output]
        · rw [ho2.size, ho1.size]; exact hkeep.size
        · intro i hi hn
          rw [ho2.block i hn, ho1.block i (by omega), hkeep.block i hi hn]
      have hfin : ∀ E, (∀ x, lkp x E = if x = k then sw (lkp k l) else lkp x D) → ∀ x, (x ∈ done ++ [k] → lkp x E = sw (lkp x l)) ∧ (x ∉ done ++ [k] → lkp x E = lkp x l) := fun E hE x => by
        rw [hE x]
        constructor
        · intro hx
          by_cases e : x = k
          · rw [if_pos e, e]
          · rw [if_neg e]
            rcases List.mem_append.1 hx with h | h
            · exact (hx0 x).1 h
            · exact absurd (by simpa using h) e
        · intro hx
          rw [if_neg (fun e => hx (by rw [e]; simp))]
          exact (hx0 x).2 fun h => hx (by simp [h])
      obtain ⟨ov, rfl⟩ := HL.out k v hlk0
      cases ov with
      | none =>
        obtain ⟨w2, hdel, hit2, ho2⟩ := run_delete_iter strKey Tryz.underlying84 Tryz.underlying9 w1 hit1 k 0 0 hin
        have hdel' := fun u ty => delete_any _ _ _ _ _ _ _ hdel u ty
        have HI : Hid ((done ++ [k]).Nodup ∧ (∀ x ∈ done ++ [k], x ∈ l.map (·.1)) ∧ (∀ x, (x ∈ done ++ [k] → lkp x (adel k D) = sw (lkp x l)) ∧ (x ∉ done ++ [k] → lkp x (adel k D) = lkp x l))) :=
          ⟨Hnd, Hsub, hfin _ fun x => by rw [lkp_adel _ _ _ (mapIs_nd strKey (IterIs.map strKey hit)), hlk0]; simp only [mv]; rw [sw_mk]⟩
        have hkeep2 := hkp w2 ho2
        simp only [strKey] at hdel' hn hen
        simp only [mv] at hn hen
        clear hlk hlk0 hknd hkl Hnd Hsub Hle Hlen hnd hsub hx0 hlen hinv hit hit1 hkeep ho1 ho2 hin hkp hfin hdel hbl
        go_wp2
        go_roundg (gk - 1)
        case measure => exact HJ.out.1
        case rel => exact ⟨_, _, hit2, HJ.out.2, HI.out, hkeep2⟩
      | some z =>
        obtain ⟨w2, hup, hit2, ho2⟩ := run_mapUpdate_iter strKey Tryz.underlying84 Tryz.underlying9 w1 hit1 k (ib z) hin
        have HI : Hid ((done ++ [k]).Nodup ∧ (∀ x ∈ done ++ [k], x ∈ l.map (·.1)) ∧ (∀ x, (x ∈ done ++ [k] → lkp x (aput k (ib z) D) = sw (lkp x l)) ∧ (x ∉ done ++ [k] → lkp x (aput k (ib z) D) = lkp x l))) :=
          ⟨Hnd, Hsub, hfin _ fun x => by rw [lkp_aput, hlk0]; simp only [mv]; rw [sw_ib]⟩
        have hkeep2 := hkp w2 ho2
        simp only [strKey] at hup hn hen
        simp only [mv] at hn hen
        clear hlk hlk0 hknd hkl Hnd Hsub Hle Hlen hnd hsub hx0 hlen hinv hit hit1 hkeep ho1 ho2 hin hkp hfin hbl
        go_wp2_with fail
        refine (deleteEmpty_int z _).mono ?_
        rintro e w3 ⟨rfl, rfl⟩
        go_wp2
        go_roundg (gk - 1)
        case measure => exact HJ.out.1
        case rel => exact ⟨_, _, hit2, HJ.out.2, HI.out, hkeep2⟩
end Go.Proofs.YtdlmdmpkjhnbmaaGreatDoor
