/- The index that the law builds, and the law's table of its key. -/
import Derived.Test.YtelbnidpchemiaaGreatDoorIxk
namespace Go.Proofs.YtelbnidpchemiaaGreatDoor
open Go.RowKit Go.Gq
set_option maxRecDepth 100000
theorem empty_bytes {b : ByteArray} (h : b.toList.isEmpty = true) : b = ⟨#[]⟩ := by
  rw [ByteArray.toList_eq] at h
  obtain ⟨d⟩ := b
  simp only [List.isEmpty_iff, Array.toList_eq_nil_iff] at h
  rw [h]
theorem bd_mono {w w' : World} {v : Value} {ok : Bool} {o : Option ByteArray} (h : BdIs w.heap.size w v ok o) (k : Kept w w') : BdIs w'.heap.size w' v ok o := by
  have hs := k.size
  rcases h with h | ⟨q, h1, ⟨hq, t, ht, c1, h2⟩, h3⟩
  · exact .inl h
  · refine .inr ⟨q, h1, ⟨by omega, t, by omega, kept_cell k c1, ?_⟩, h3⟩
    rcases h2 with ⟨c2, h4⟩ | ⟨st, s, qa, ql, qc, hst, c2, c3, c4, c5, h4⟩
    · exact .inl ⟨kept_cell k c2, h4⟩
    · exact .inr ⟨st, s, qa, ql, qc, by omega, kept_cell k c2, kept_cell k c3, kept_cell k c4, kept_cell k c5, h4⟩
/-- A bound's text. -/
def bdO (k : Int) (v : ByteArray) : Option ByteArray := if k = 1 then some v else none
theorem size1 (w : World) (a : Obj) : (w.alloc a).heap.size = w.heap.size + 1 := by simp
theorem cell_old' (w : World) (o : Obj) {a : Addr} {v : Value} (h : w.cell? a = some v) : (w.alloc o).cell? a = some v := kept_cell (kept_alloc w o) h
theorem news2 (w : World) (c1 c2 : Array Value) (t1 t2 : TypeId) (W : World) (hW : W = (w.alloc (.cells c1 t1)).alloc (.cells c2 t2)) :
    (∀ k v, c1[k]? = some v → W.cell? ⟨w.heap.size, k, none⟩ = some v) ∧ (∀ k v, c2[k]? = some v → W.cell? ⟨w.heap.size + 1, k, none⟩ = some v) ∧ Kept w W ∧ W.heap.size = w.heap.size + 1 + 1 := by
  have hs : (w.alloc (.cells c1 t1)).heap.size = w.heap.size + 1 := by simp
  subst hW
  refine ⟨fun k v h => cell_old' _ _ (cell_fresh _ _ _ k _ h), fun k v h => ?_, (kept_alloc _ _).trans (kept_alloc _ _), by simp⟩
  rw [← hs]; exact cell_fresh _ _ _ k _ h
theorem news3 (w : World) (c1 c2 c3 : Array Value) (t1 t2 t3 : TypeId) (W : World) (hW : W = ((w.alloc (.cells c1 t1)).alloc (.cells c2 t2)).alloc (.cells c3 t3)) :
    (∀ k v, c1[k]? = some v → W.cell? ⟨w.heap.size, k, none⟩ = some v) ∧ (∀ k v, c2[k]? = some v → W.cell? ⟨w.heap.size + 1, k, none⟩ = some v) ∧ (∀ k v, c3[k]? = some v → W.cell? ⟨w.heap.size + 1 + 1, k, none⟩ = some v) ∧ Kept w W ∧ W.heap.size = w.heap.size + 1 + 1 + 1 := by
  have hs : ((w.alloc (.cells c1 t1)).alloc (.cells c2 t2)).heap.size = w.heap.size + 1 + 1 := by simp
  obtain ⟨h1, h2, h3, h4⟩ := news2 w c1 c2 t1 t2 _ rfl
  subst hW
  refine ⟨fun k v h => cell_old' _ _ (h1 k v h), fun k v h => cell_old' _ _ (h2 k v h), fun k v h => ?_, h3.trans (kept_alloc _ _), by simp⟩
  rw [← hs]; exact cell_fresh _ _ _ k _ h
theorem strQuery_any (k : Int) (v : ByteArray) (w : World) :
    Calls Tryz.prog 71 #[.int .i64 k, .string v] w fun e w' => Kept w w' ∧ ∃ po, e = .returned (.pointer po) ∧ BdIs w'.heap.size w' (.pointer po) (decide (k ≤ 1)) (bdO k v) ∧ (0 < k → po ≠ none) := by
  by_cases h0 : k ≤ 0
  · go_enter Tryz.func71, Tryz.ntmps71
    go_wp2
    go_ret
    exact ⟨Below.refl _ _, _, rfl, .inl ⟨rfl, by simp; omega, by simp [bdO]; omega⟩, fun h => by omega⟩
  by_cases h1 : k = 1
  · subst h1
    go_enter Tryz.func71, Tryz.ntmps71
    go_wp2
    go_ret
    obtain ⟨n1, n2, n3, n4, n5⟩ := news3 w _ _ _ _ _ _ _ rfl
    exact ⟨n4, _, rfl, .inr ⟨_, rfl, ⟨by rw [n5]; omega, _, by rw [n5]; omega, n3 3 _ rfl, .inr ⟨w.heap.size, v, none, 0, 0, by rw [n5]; omega, n2 0 _ rfl, n2 8 _ rfl, n1 0 _ rfl, n1 1 _ rfl, rfl⟩⟩, rfl⟩, by simp⟩
  have h1b : (k == 1) = false := by simpa using h1
  by_cases h2 : k = 2
  · subst h2
    go_enter Tryz.func71, Tryz.ntmps71
    go_wp2
    go_ret
    obtain ⟨n1, n2, n3, n4, n5⟩ := news3 (w.alloc _) _ _ _ _ _ _ _ rfl
    simp only [size1] at n1 n2 n3
    exact ⟨Kept.trans (kept_alloc _ _) n4, _, rfl, .inr ⟨_, rfl, ⟨by rw [n5, size1]; omega, _, by rw [n5, size1]; omega, n3 3 _ rfl, .inr ⟨_, v, some _, 0, 0, by rw [n5, size1]; omega, n2 0 _ rfl, n2 8 _ rfl, n1 0 _ rfl, n1 1 _ rfl, rfl⟩⟩, rfl⟩, by simp⟩
  have h2b : (k == 2) = false := by simpa using h2
  go_enter Tryz.func71, Tryz.ntmps71
  go_wp2
  go_ret
  obtain ⟨n1, n2, n3, n4⟩ := news2 w _ _ _ _ _ rfl
  have e1 : bdO k v = none := by simp [bdO, h1]
  have e2 : decide (k ≤ 1) = false := by simp; omega
  rw [e1, e2]
  exact ⟨n3, _, rfl, .inr ⟨_, rfl, ⟨by rw [n4]; omega, _, by rw [n4]; omega, n2 3 _ rfl, .inl ⟨n1 0 _ rfl, rfl⟩⟩, rfl⟩, by simp⟩
/-- The key that the law's table tells. -/
def kyOf (name : ByteArray) (hs : Bool) (sv : ByteArray) (si sl : Bool) (sk : Int) (s : ByteArray) (ek : Int) (e : ByteArray) : Ky :=
  if name.toList.isEmpty = false then .str name else if hs = true then (if si = true then .no else .str sv) else if sl = true then (if sk ≤ 1 ∧ ek ≤ 1 then .slc (bdO sk s) (bdO ek e) else .no) else oKy (bdO sk s)
/-- The index's cells tell its key. -/
theorem idk_cells {B i : Nat} {name : ByteArray} {hs : Bool} {sv : ByteArray} {si sl : Bool} {sk : Int} {s : ByteArray} {ek : Int} {e : ByteArray} {stp : Value} {po pe : Option Addr} {w : World} (hi : i < B) (c0 : w.cell? ⟨i, 0, none⟩ = some (.string name)) (c1 : w.cell? ⟨i, 1, none⟩ = some stp) (c2 : w.cell? ⟨i, 2, none⟩ = some (.pointer po)) (c3 : w.cell? ⟨i, 3, none⟩ = some (.pointer pe)) (c4 : w.cell? ⟨i, 4, none⟩ = some (.bool sl))
    (hst : (hs = false ∧ stp = .pointer none) ∨ (hs = true ∧ ∃ (st : Nat) (qa : Option Addr) (ql qc : Nat), st < B ∧ stp = bq st ∧ w.cell? ⟨st, 0, none⟩ = some (.string sv) ∧ w.cell? ⟨st, 1, none⟩ = some (.slice qa ql qc) ∧ qa.isNone = !si))
    (h1 : BdIs B w (.pointer po) (decide (sk ≤ 1)) (bdO sk s)) (hn : 0 < sk → po ≠ none) (h2 : BdIs B w (.pointer pe) (decide (ek ≤ 1)) (bdO ek e)) (hg : ¬ (name.toList.isEmpty = true ∧ hs = false ∧ sl = false ∧ sk ≤ 0)) : IdkIs B w i (kyOf name hs sv si sl sk s ek e) := by
  unfold kyOf
  by_cases hnm : name.toList.isEmpty = false
  · rw [if_pos hnm]
    exact idk_name hi c0 hnm
  rw [if_neg hnm]
  have hnm2 : name.toList.isEmpty = true := by simpa using hnm
  obtain rfl : name = ⟨#[]⟩ := empty_bytes hnm2
  rcases hst with ⟨rfl, rfl⟩ | ⟨rfl, st, qa, ql, qc, hst, rfl, s0, s1, hq⟩
  · rw [if_neg (by simp)]
    cases sl with
    | true =>
      rw [if_pos rfl]
      have := idk_slice hi c0 c1 c4 c2 c3 h1 h2
      simpa only [Bool.and_eq_true, decide_eq_true_eq] using this
    | false =>
      rw [if_neg (by simp)]
      have hsk : 0 < sk := by
        by_cases h : sk ≤ 0
        · exact absurd ⟨hnm2, rfl, rfl, h⟩ hg
        · omega
      rcases h1 with ⟨h, _⟩ | ⟨q, h, hq, _⟩
      · injection h with h
        exact absurd h (hn hsk)
      · rw [h] at c2
        exact idk_start hi c0 c1 c4 c2 hq
  · rw [if_pos rfl]
    have := idk_str hi hst c0 c1 s0 s1
    rw [hq] at this
    cases si <;> simpa using this
theorem keyIndex_any (name : ByteArray) (hs : Bool) (sv : ByteArray) (si sl : Bool) (sk : Int) (s : ByteArray) (ek : Int) (e : ByteArray) (w : World) (hg : ¬ (name.toList.isEmpty = true ∧ hs = false ∧ sl = false ∧ sk ≤ 0)) :
    Calls Tryz.prog 42 #[.string name, .bool hs, .string sv, .bool si, .bool sl, .int .i64 sk, .string s, .int .i64 ek, .string e] w fun en w' => Kept w w' ∧ ∃ i, en = .returned (bq i) ∧ IdkIs w'.heap.size w' i (kyOf name hs sv si sl sk s ek e) := by
  have HG : Hid (¬ (name.toList.isEmpty = true ∧ hs = false ∧ sl = false ∧ sk ≤ 0)) := hg
  clear hg
  go_enter Tryz.func42, Tryz.ntmps42
  go_wp2_with fail
  refine (strQuery_any sk s w).mono ?_
  rintro en w1 ⟨hk1, po, rfl, hb1, hn1⟩
  have H1 := Lib.hid (And.intro hk1 (And.intro hb1 hn1))
  clear hk1 hb1 hn1
  go_wp2_with fail
  refine (strQuery_any ek e w1).mono ?_
  rintro en w2 ⟨hk2, pe, rfl, hb2, hn2⟩
  have H2 := Lib.hid (And.intro hk2 (And.intro hb2 hn2))
  clear hk2 hb2 hn2
  cases hs with
  | false =>
    go_wp2
    go_ret
    have hk3 := kept_alloc w2 (.cells #[.string name, .pointer none, .pointer po, .pointer pe, .bool sl] 76)
    obtain ⟨hk2, hb2, _⟩ := H2.out
    obtain ⟨hk1, hb1, hn1⟩ := H1.out
    have hsz := hk2.size
    refine ⟨(hk1.trans hk2).trans hk3, _, rfl, ?_⟩
    refine idk_cells (stp := .pointer none) (by simp) (cell_fresh _ _ _ 0 _ rfl) (cell_fresh _ _ _ 1 _ rfl) (cell_fresh _ _ _ 2 _ rfl) (cell_fresh _ _ _ 3 _ rfl) (cell_fresh _ _ _ 4 _ rfl) (.inl ⟨rfl, rfl⟩) (bd_mono hb1 (hk2.trans hk3)) hn1 (bd_mono hb2 hk3) (by simpa using HG.out)
  | true =>
    cases si with
    | false =>
      go_wp2
      go_ret
      obtain ⟨n1, n2, hk3, n4⟩ := news2 w2 _ _ _ _ _ rfl
      obtain ⟨hk2, hb2, _⟩ := H2.out
      obtain ⟨hk1, hb1, hn1⟩ := H1.out
      refine ⟨(hk1.trans hk2).trans hk3, _, rfl, ?_⟩
      refine idk_cells (by rw [n4]; omega) (n1 0 _ rfl) (n1 1 _ rfl) (n1 2 _ rfl) (n1 3 _ rfl) (n1 4 _ rfl) (.inr ⟨rfl, _, none, 0, 0, by rw [n4]; omega, rfl, n2 0 _ rfl, n2 1 _ rfl, rfl⟩) (bd_mono hb1 (hk2.trans hk3)) hn1 (bd_mono hb2 hk3) HG.out
    | true =>
      go_wp2
      go_ret
      obtain ⟨n1, _, n2, hk3, n4⟩ := news3 w2 _ _ _ _ _ _ _ rfl
      obtain ⟨hk2, hb2, _⟩ := H2.out
      obtain ⟨hk1, hb1, hn1⟩ := H1.out
      refine ⟨(hk1.trans hk2).trans hk3, _, rfl, ?_⟩
      refine idk_cells (by rw [n4]; omega) (n1 0 _ rfl) (n1 1 _ rfl) (n1 2 _ rfl) (n1 3 _ rfl) (n1 4 _ rfl) (.inr ⟨rfl, _, some _, 0, 0, by rw [n4]; omega, rfl, n2 0 _ rfl, n2 1 _ rfl, rfl⟩) (bd_mono hb1 (hk2.trans hk3)) hn1 (bd_mono hb2 hk3) HG.out
/-- The numbers of the law's table. -/
def kyN : Ky → Int
  | .no => 0
  | .str _ => 1
  | .slc _ _ => 2
def kyT : Ky → ByteArray
  | .str s => s
  | _ => ⟨#[]⟩
def oN : Option ByteArray → Int
  | none => 0
  | some _ => 1
def oT : Option ByteArray → ByteArray
  | none => ⟨#[]⟩
  | some s => s
def kyA : Ky → Option ByteArray
  | .slc a _ => a
  | _ => none
def kyB : Ky → Option ByteArray
  | .slc _ b => b
  | _ => none
abbrev six6 (a : Int) (s : ByteArray) (b : Int) (t : ByteArray) (c : Int) (u : ByteArray) : Value := .tuple #[.int .i64 a, .string s, .int .i64 b, .string t, .int .i64 c, .string u]
abbrev kyV (k : Ky) : Value := six6 (kyN k) (kyT k) (oN (kyA k)) (oT (kyA k)) (oN (kyB k)) (oT (kyB k))
theorem subKey_any (k : Int) (v : ByteArray) (w : World) : Calls Tryz.prog 72 #[.int .i64 k, .string v] w fun e w' => e = .returned (.tuple #[.int .i64 (oN (bdO k v)), .string (oT (bdO k v))]) ∧ w = w' := by
  by_cases h : k = 1
  · subst h
    go_enter Tryz.func72, Tryz.ntmps72
    go_wp2
    exact bodyPost_ret (v := .tuple #[.int .i64 1, .string v]) (by simp [results, Tryz.results72, go_sem]) rfl ⟨rfl, rfl⟩
  · have h2 : (k == 1) = false := by simpa using h
    have e : bdO k v = none := by simp [bdO, h]
    rw [e]
    go_enter Tryz.func72, Tryz.ntmps72
    go_wp2
    exact bodyPost_ret (v := .tuple #[.int .i64 0, .string ⟨#[]⟩]) (by simp [results, Tryz.results72, go_sem]) rfl ⟨rfl, rfl⟩
section
set_option maxHeartbeats 1000000
theorem modelKey_any (name : ByteArray) (hs : Bool) (sv : ByteArray) (si sl : Bool) (sk : Int) (s : ByteArray) (ek : Int) (e : ByteArray) (w : World) :
    Calls Tryz.prog 43 #[.string name, .bool hs, .string sv, .bool si, .bool sl, .int .i64 sk, .string s, .int .i64 ek, .string e] w fun en w' => en = .returned (kyV (kyOf name hs sv si sl sk s ek e)) ∧ w = w' := by
  cases hnm : name.toList.isEmpty
  · go_enter Tryz.func43, Tryz.ntmps43
    go_wp2
    exact bodyPost_ret (v := six6 1 name 0 ⟨#[]⟩ 0 ⟨#[]⟩) (by simp [results, Tryz.results43, go_sem]) rfl ⟨by simp [kyOf, kyN, kyT, kyA, kyB, oN, oT, *], rfl⟩
  cases hs with
  | true =>
    cases si
    · go_enter Tryz.func43, Tryz.ntmps43
      go_wp2
      exact bodyPost_ret (v := six6 1 sv 0 ⟨#[]⟩ 0 ⟨#[]⟩) (by simp [results, Tryz.results43, go_sem]) rfl ⟨by simp [kyOf, kyN, kyT, kyA, kyB, oN, oT, *], rfl⟩
    · go_enter Tryz.func43, Tryz.ntmps43
      go_wp2
      exact bodyPost_ret (v := six6 0 ⟨#[]⟩ 0 ⟨#[]⟩ 0 ⟨#[]⟩) (by simp [results, Tryz.results43, go_sem]) rfl ⟨by simp [kyOf, kyN, kyT, kyA, kyB, oN, oT, *], rfl⟩
  | false =>
  cases sl with
  | false =>
    go_enter Tryz.func43, Tryz.ntmps43
    go_wp2_with fail
    refine (subKey_any sk s w).mono ?_
    rintro en w1 ⟨rfl, rfl⟩
    go_wp2
    cases hb : bdO sk s
    · exact bodyPost_ret (v := six6 0 ⟨#[]⟩ 0 ⟨#[]⟩ 0 ⟨#[]⟩) (by simp [oN, oT, results, Tryz.results43, go_sem]) rfl ⟨by simp [oKy, kyOf, kyN, kyT, kyA, kyB, oN, oT, *], rfl⟩
    · rename_i x
      exact bodyPost_ret (v := six6 1 x 0 ⟨#[]⟩ 0 ⟨#[]⟩) (by simp [oN, oT, results, Tryz.results43, go_sem]) rfl ⟨by simp [oKy, kyOf, kyN, kyT, kyA, kyB, oN, oT, *], rfl⟩
  | true =>
  by_cases s0 : sk ≤ 0
  · have b1 : bdO sk s = none := by simp [bdO]; omega
    have t1 : sk ≤ 1 := by omega
    by_cases e0 : ek ≤ 0
    · have b2 : bdO ek e = none := by simp [bdO]; omega
      have t2 : ek ≤ 1 := by omega
      go_enter Tryz.func43, Tryz.ntmps43
      go_wp2
      exact bodyPost_ret (v := six6 2 ⟨#[]⟩ 0 ⟨#[]⟩ 0 ⟨#[]⟩) (by simp [results, Tryz.results43, go_sem]) rfl ⟨by simp [kyOf, kyN, kyT, kyA, kyB, oN, oT, *], rfl⟩
    by_cases e1 : ek = 1
    · subst e1
      have b2 : bdO 1 e = some e := rfl
      go_enter Tryz.func43, Tryz.ntmps43
      go_wp2_with fail
      refine (subKey_any 1 e w).mono ?_
      rintro en w1 ⟨rfl, rfl⟩
      simp only [b2, oN, oT]
      go_wp2
      exact bodyPost_ret (v := six6 2 ⟨#[]⟩ 0 ⟨#[]⟩ 1 e) (by simp [results, Tryz.results43, go_sem]) rfl ⟨by simp [kyOf, kyN, kyT, kyA, kyB, oN, oT, *], rfl⟩
    have b2 : bdO ek e = none := by simp [bdO, e1]
    have t2 := Lib.hid (show ¬ ek ≤ 1 by omega)
    go_enter Tryz.func43, Tryz.ntmps43
    go_wp2_with fail
    refine (subKey_any ek e w).mono ?_
    rintro en w1 ⟨rfl, rfl⟩
    simp only [b2, oN, oT]
    go_wp2
    exact bodyPost_ret (v := six6 0 ⟨#[]⟩ 0 ⟨#[]⟩ 0 ⟨#[]⟩) (by simp [results, Tryz.results43, go_sem]) rfl ⟨by simp [kyOf, kyN, kyT, kyA, kyB, oN, oT, show (ek ≤ 1) = False by have := t2.out; simp; omega, *], rfl⟩
  by_cases s1 : sk = 1
  · subst s1
    have b1 : bdO 1 s = some s := rfl
    by_cases e0 : ek ≤ 0
    · have b2 : bdO ek e = none := by simp [bdO]; omega
      have t2 : ek ≤ 1 := by omega
      go_enter Tryz.func43, Tryz.ntmps43
      go_wp2_with fail
      refine (subKey_any 1 s w).mono ?_
      rintro en w1 ⟨rfl, rfl⟩
      simp only [b1, oN, oT]
      go_wp2
      exact bodyPost_ret (v := six6 2 ⟨#[]⟩ 1 s 0 ⟨#[]⟩) (by simp [results, Tryz.results43, go_sem]) rfl ⟨by simp [kyOf, kyN, kyT, kyA, kyB, oN, oT, *], rfl⟩
    by_cases e1 : ek = 1
    · subst e1
      have b2 : bdO 1 e = some e := rfl
      go_enter Tryz.func43, Tryz.ntmps43
      go_wp2_with fail
      refine (subKey_any 1 s w).mono ?_
      rintro en w1 ⟨rfl, rfl⟩
      simp only [b1, oN, oT]
      go_wp2_with fail
      refine (subKey_any 1 e w).mono ?_
      rintro en w1 ⟨rfl, rfl⟩
      simp only [b2, oN, oT]
      go_wp2
      exact bodyPost_ret (v := six6 2 ⟨#[]⟩ 1 s 1 e) (by simp [results, Tryz.results43, go_sem]) rfl ⟨by simp [kyOf, kyN, kyT, kyA, kyB, oN, oT, *], rfl⟩
    have b2 : bdO ek e = none := by simp [bdO, e1]
    have t2 := Lib.hid (show ¬ ek ≤ 1 by omega)
    go_enter Tryz.func43, Tryz.ntmps43
    go_wp2_with fail
    refine (subKey_any 1 s w).mono ?_
    rintro en w1 ⟨rfl, rfl⟩
    simp only [b1, oN, oT]
    go_wp2_with fail
    refine (subKey_any ek e w).mono ?_
    rintro en w1 ⟨rfl, rfl⟩
    simp only [b2, oN, oT]
    go_wp2
    exact bodyPost_ret (v := six6 0 ⟨#[]⟩ 0 ⟨#[]⟩ 0 ⟨#[]⟩) (by simp [results, Tryz.results43, go_sem]) rfl ⟨by simp [kyOf, kyN, kyT, kyA, kyB, oN, oT, show (ek ≤ 1) = False by have := t2.out; simp; omega, *], rfl⟩
  have b1 : bdO sk s = none := by simp [bdO, s1]
  have t1 := Lib.hid (show ¬ sk ≤ 1 by omega)
  go_enter Tryz.func43, Tryz.ntmps43
  go_wp2_with fail
  refine (subKey_any sk s w).mono ?_
  rintro en w1 ⟨rfl, rfl⟩
  simp only [b1, oN, oT]
  go_wp2
  exact bodyPost_ret (v := six6 0 ⟨#[]⟩ 0 ⟨#[]⟩ 0 ⟨#[]⟩) (by simp [results, Tryz.results43, go_sem]) rfl ⟨by simp [kyOf, kyN, kyT, kyA, kyB, oN, oT, show (sk ≤ 1) = False by have := t1.out; simp; omega, *], rfl⟩
end
end Go.Proofs.YtelbnidpchemiaaGreatDoor
