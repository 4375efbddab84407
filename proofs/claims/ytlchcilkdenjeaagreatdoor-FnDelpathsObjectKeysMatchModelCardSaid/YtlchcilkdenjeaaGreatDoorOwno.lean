/- The contracts of sameObject, sameThing and allocated at a map that the allocator holds; updateObject at the marker. -/
import Derived.Test.YtlchcilkdenjeaaGreatDoorDelo
import Derived.Test.YtlchcilkdenjeaaGreatDoorOwn
import Derived.Laws.Concat
namespace Go.Proofs.YtlchcilkdenjeaaGreatDoor
open Go.RowKit Go.Gq
attribute [local go_sem] Lib.run_eql_slice_nil
set_option maxRecDepth 100000
/-- j bytes 0. -/
def zk : Nat → ByteArray
  | 0 => ⟨#[]⟩
  | j + 1 => zk j ++ ⟨#[0]⟩
theorem zk_size : ∀ j, (zk j).size = j
  | 0 => rfl
  | j + 1 => by simp only [zk, ByteArray.size_append, zk_size j]; rfl
theorem zk_inj {i j : Nat} (h : zk i = zk j) : i = j := by rw [← zk_size i, ← zk_size j, h]
theorem zk_fits (l : List (ByteArray × Value)) (j : Nat) (h : ∀ i, i < j → (lkp (zk i) l).isSome = true) : j ≤ l.length := by
  have h1 := nodup_len ((List.range j).map zk) (l.map (·.1)) (by
    rw [List.nodup_iff_pairwise_ne, List.pairwise_map]
    exact (List.nodup_iff_pairwise_ne.1 (List.nodup_range)).imp fun hne e => hne (zk_inj e)) (fun x hx => by
      obtain ⟨i, hi, rfl⟩ := List.mem_map.1 hx
      exact (mem_keys _ _).2 (h i (by simpa using hi)))
  simpa using h1
theorem adel_aput (k : ByteArray) (v : Value) : ∀ (l : List (ByteArray × Value)), lkp k l = none → adel k (aput k v l) = l
  | [], _ => by simp [aput, adel]
  | p :: l, h => by
    simp only [lkp] at h
    by_cases hk : k = p.1
    · rw [if_pos hk] at h; cases h
    · rw [if_neg hk] at h
      simp only [aput, if_neg hk, adel]
      rw [adel_aput k v l h]
set_option maxHeartbeats 1000000 in
/-- sameObject: a map and itself. -/
theorem sameObject_same (b : Nat) (l : List (ByteArray × Value)) (w : World) (hm : w.MapIs strKey b l) (hl : l.length ≤ 1048576) :
    Calls Tryz.prog 64 #[.map (some b), .map (some b)] w fun e w' => e = .returned (.bool true) ∧ w'.MapIs strKey b l ∧ Keep (fun x => x = b) w w' := by
  have hnil : ∀ W : World, (binOp .eql 41 (.map (some b)) (.map none)).run Tryz.prog W = .ok (.bool false) W := fun W => eql_map_nil W _ _ _ (some b) Tryz.underlying41
  have hln := fun ty => run_len_assoc strKey (P := Tryz.prog) Tryz.underlying41 w hm ty
  have q1 : ((l.length : Int) != (l.length : Int)) = false := by simp
  have q2 : ((l.length : Int) == (l.length : Int)) = true := by simp
  have HM := Lib.hid hm
  clear hm
  go_enter Tryz.func64, Tryz.ntmps64
  go_wp2
  clear hnil hln
  go_loopg [5] l.length (fun g k wr => ∃ j : Nat, k = .string (zk j) ∧ wr = w ∧ Hid (j + g = l.length ∧ ∀ i, i < j → (lkp (zk i) l).isSome = true))
  case atStart => exact ⟨0, rfl, rfl, by omega, fun i hi => absurd hi (Nat.not_lt_zero _)⟩
  case round =>
    obtain ⟨j, rfl, rfl, HJ⟩ := hrel
    have hlk := run_lookup_assoc strKey (P := Tryz.prog) Tryz.underlying41 Tryz.underlying9 wr HM.out (zk j) _ (zeroAny wr) true
    cases hg : lkp (zk j) l with
    | some v =>
      rw [hg] at hlk
      have hfit := zk_fits l (j + 1) (fun i hi => by
        by_cases e : i = j
        · rw [e, hg]; rfl
        · exact HJ.out.2 i (by omega))
      have HN : Hid (gk - 1 < gk ∧ (j + 1) + (gk - 1) = l.length ∧ ∀ i, i < j + 1 → (lkp (zk i) l).isSome = true) := ⟨by have := HJ.out.1; omega, by have := HJ.out.1; omega, fun i hi => by
        by_cases e : i = j
        · rw [e, hg]; rfl
        · exact HJ.out.2 i (by omega)⟩
      simp only [strKey] at hlk
      have HS : Hid (zk (j + 1) = zk j ++ ⟨#[0]⟩) := rfl
      have hadd : ∀ W : World, (Op.stringOp .add (zk j) ⟨#[0]⟩).run Tryz.prog W = .ok (.string (zk j ++ ⟨#[0]⟩)) W := fun W => run_string_add_sum W (zk j) ⟨#[0]⟩ (by rw [zk_size, show (⟨#[0]⟩ : ByteArray).size = 1 from rfl]; omega)
      clear hg hfit HJ
      go_wp2
      go_roundg (gk - 1)
      case measure => exact HN.out.1
      case rel => exact ⟨j + 1, by rw [HS.out], rfl, HN.out.2⟩
    | none =>
      rw [hg] at hlk
      obtain ⟨w2, hup, hm2, ho2⟩ := run_mapUpdate_assoc strKey (P := Tryz.prog) Tryz.underlying41 Tryz.underlying9 wr HM.out (zk j) .nilIface
      have hlk2 := run_lookup_assoc strKey (P := Tryz.prog) Tryz.underlying41 Tryz.underlying9 w2 hm2 (zk j) _ (zeroAny w2) true
      rw [lkp_aput, if_pos rfl] at hlk2
      obtain ⟨w3, hdel, hm3, ho3⟩ := run_delete_assoc strKey (P := Tryz.prog) Tryz.underlying41 Tryz.underlying9 w2 hm2 (zk j) 0 0
      have hdel' := fun u ty => delete_any _ _ _ _ _ _ _ hdel u ty
      rw [adel_aput _ _ _ hg] at hm3
      have hln3 := fun ty => run_len_assoc strKey (P := Tryz.prog) Tryz.underlying41 w3 hm3 ty
      have HF := Lib.hid (And.intro hm3 ((keep_of_only (S := fun x => x = b) ho2 rfl).trans (keep_of_only (S := fun x => x = b) ho3 rfl)))
      simp only [strKey] at hlk hup hlk2 hdel'
      clear hg HJ hm2 hm3 ho2 ho3 hdel
      go_wp2
      go_ret
      exact ⟨rfl, HF.out⟩
/-- allocated: the map is the allocator's one entry. -/
theorem allocated_ownmap (mb b : Nat) (l : List (ByteArray × Value)) (w : World) (hm : w.MapIs intKey mb [((0 : Int), .iface 41 (.map (some b)))]) (hb : w.MapIs strKey b l) (hl : l.length ≤ 1048576) :
    Calls Tryz.prog 42 #[.map (some mb), .iface 41 (.map (some b))] w fun e w' => e = .returned (.bool true) ∧ w'.MapIs strKey b l ∧ Keep (fun x => x = b) w w' := by
  obtain ⟨o, hr, hit⟩ := run_range_assoc intKey (P := Tryz.prog) Tryz.underlying39 w hm
  obtain ⟨w', hn, ho, he⟩ : ∃ w', (∀ ty, (Instr.next (.pointer (some ⟨w.heap.size, 0, none⟩)) false ty).run Tryz.prog (w.alloc o) = .ok (.tuple #[.bool true, .int .i64 0, .iface 41 (.map (some b))]) w') ∧ Only w.heap.size (w.alloc o) w' ∧
      (Instr.entry (.pointer (some ⟨w.heap.size, 0, none⟩))).run Tryz.prog w' = .ok (.tuple #[.int .i64 0, .iface 41 (.map (some b))]) w' := by
    rcases run_next_assoc intKey (P := Tryz.prog) (w.alloc o) hit with ⟨h, _⟩ | ⟨k, v, w', _, hl, hn, _, ho, he⟩
    · exact absurd (h 0 (by simp)) (by simp)
    · have hkv : k = 0 ∧ v = .iface 41 (.map (some b)) := by
        rw [lkp] at hl
        split at hl
        · rename_i e
          injection hl with hl
          exact ⟨e, hl.symm⟩
        · cases hl
      obtain ⟨rfl, rfl⟩ := hkv
      exact ⟨w', hn, ho, he⟩
  have hk1 : Kept w (w.alloc o) := kept_alloc w o
  have hk2 : Below w.heap.size (w.alloc o) w' := (keep_of_only (S := fun i => i = w.heap.size) ho rfl).below (B := w.heap.size) (by simp) (fun i e => by omega)
  have hk : Kept w w' := Below.trans hk1 hk2
  have hb' : w'.MapIs strKey b l := mapIs_of_block strKey hb (hk.block _ (mapIs_lt strKey hb))
  have HK := Lib.hid (And.intro hk hb')
  clear hk1 hk2 ho hit hk hb' hb
  go_enter Tryz.func42, Tryz.ntmps42
  go_wp2
  obtain ⟨W, HW⟩ : ∃ W : World, W = w.alloc o := ⟨_, rfl⟩
  rw [← HW] at hn ⊢
  clear HW hr
  go_loopw [6] (fun _ wr => wr = W) (fun _ _ => 0)
  case atStart => rfl
  case round =>
    subst hrel
    go_wp2_with fail
    go_in
    go_wp2_with fail
    refine (sameObject_same b l w' HK.out.2 hl).mono ?_
    rintro e w1 ⟨rfl, hm1, hk1⟩
    have HF := Lib.hid (And.intro hm1 ((keep_of_below (fun x => x = b) HK.out.1).trans hk1))
    clear hm1 hk1
    go_wp2
    go_ret
    exact ⟨rfl, HF.out⟩
end Go.Proofs.YtlchcilkdenjeaaGreatDoor
