/- The suffix that the law builds; the converter of toIndices. -/
import Derived.Test.YticjhbklcpoonaaGreatDoorSxb
namespace Go.Proofs.YticjhbklcpoonaaGreatDoor
open Go.RowKit Go.Gq
set_option maxRecDepth 100000
/-- A suffix whose key is o, wherever nothing below B has turned. -/
def SufC (B : Nat) (w : World) (b : Nat) (o : Option ByteArray) : Prop :=
  ∀ (B' : Nat) (w1 : World) (v : Value) (xs : List Value), B ≤ B' → Below B w w1 → w1.ownsRow B' 20 1 v xs.length xs → xs.length ≤ 4194304 → B' ≤ w1.heap.size → Calls Tryz.prog 50 #[bq b, v] w1 (KyAns B' xs (oKy o) w1)
theorem SufC.up {w w' : World} {b : Nat} {o : Option ByteArray} (h : SufC w.heap.size w b o) (k : Kept w w') : SufC w'.heap.size w' b o := fun B' w1 v xs hB hb => h B' w1 v xs (Nat.le_trans k.size hB) (k.trans hb)
theorem sufC_none {B b : Nat} {w : World} (hb : b < B) (c0 : w.cell? ⟨b, 0, none⟩ = some (.pointer none)) : SufC B w b none := fun B' w1 v _ _ hk _ _ _ => by
  refine (suffix_none b v w1 (below_cell hk hb c0)).mono ?_
  rintro e w' ⟨rfl, rfl⟩
  exact ⟨Below.refl _ _, .inl ⟨rfl, rfl⟩⟩
theorem sufC_key {B b i : Nat} {o : Option ByteArray} {w : World} (hb : b < B) (c0 : w.cell? ⟨b, 0, none⟩ = some (bq i)) (hi : IdkIs B w i (oKy o)) : SufC B w b o := fun B' w1 v xs hBB hk hown hn hB =>
  suffix_key B' b i (oKy o) v xs w1 (below_cell hk hb c0) (fun w2 h2 h3 => hi w2 (hk.trans (Below.mono h2 hBB)) (Nat.le_trans hBB h3)) hown hn hB
def allocs (w : World) : List Obj → World
  | [] => w
  | o :: os => allocs (w.alloc o) os
theorem allocs_kept : ∀ (os : List Obj) (w : World), Kept w (allocs w os)
  | [], _ => Below.refl _ _
  | o :: os, w => (kept_alloc w o).trans (allocs_kept os _)
theorem allocs_size : ∀ (os : List Obj) (w : World), (allocs w os).heap.size = w.heap.size + os.length
  | [], _ => rfl
  | o :: os, w => by rw [allocs, allocs_size os, List.length_cons, show (w.alloc o).heap.size = w.heap.size + 1 by simp]; omega
theorem allocs_cell : ∀ (os : List Obj) (w : World) (k : Nat) (cs : Array Value) (t : TypeId) (j : Nat) (v : Value), os[k]? = some (.cells cs t) → cs[j]? = some v → (allocs w os).cell? ⟨w.heap.size + k, j, none⟩ = some v
  | [], _, _, _, _, _, _, h, _ => by simp at h
  | o :: os, w, 0, cs, t, j, v, h, hv => by
    simp only [List.getElem?_cons_zero, Option.some.injEq] at h
    subst h
    exact kept_cell (allocs_kept os _) (cell_fresh w cs t j v hv)
  | o :: os, w, k + 1, cs, t, j, v, h, hv => by
    have := allocs_cell os (w.alloc o) k cs t j v (by simpa using h) hv
    rw [show (w.alloc o).heap.size = w.heap.size + 1 by simp] at this
    rw [show w.heap.size + (k + 1) = w.heap.size + 1 + k by omega]
    exact this
theorem cell_old5 (w : World) (o : Obj) {a : Addr} {v : Value} (h : w.cell? a = some v) : (w.alloc o).cell? a = some v := kept_cell (kept_alloc w o) h
theorem empty_bytes' {b : ByteArray} (h : b.toList.isEmpty = true) : b = ⟨#[]⟩ := by
  rw [ByteArray.toList_eq] at h
  obtain ⟨d⟩ := b
  simp only [List.isEmpty_iff, Array.toList_eq_nil_iff] at h
  rw [h]
/-- The worlds that the builder leaves: a chain of new blocks. -/
def BKAns (s : ByteArray) (w : World) (e : Ending) (w' : World) : Prop := Kept w w' ∧ ∃ q, e = .returned (bq q) ∧ ∀ W : World, (∀ m, w.heap.size ≤ m → m < w'.heap.size → W.heap[m]? = w'.heap[m]?) → w'.heap.size ≤ W.heap.size → KeyIs W.heap.size W q (some s)
theorem buildKey_str (s : ByteArray) (w : World) : Calls Tryz.prog 49 #[.int .i64 2, .string s] w (BKAns s w) := by
  go_enter Tryz.func49, Tryz.ntmps49
  go_wp2
  go_ret
  obtain ⟨os, hos⟩ : ∃ os : List Obj, os = [.cells #[.string s, .slice none 0 0] 105, .cells #[.int .i64 13, np, np, np, np, .string ⟨#[]⟩, np, .string ⟨#[]⟩, bq w.heap.size, np, np, np, np, np, .string ⟨#[]⟩, np, ns] 88, .cells #[np, ns, ns, bq (w.heap.size + 1), np, np, ns, .int .i64 0] 42] := ⟨_, rfl⟩
  show BKAns s w (.returned (bq (w.heap.size + 2))) (allocs w [_, _, _])
  have hz := allocs_size os w
  have hk := allocs_kept os w
  have hc := allocs_cell os w
  rw [hos] at hz hk hc
  simp only [List.length_cons, List.length_nil] at hz
  refine ⟨hk, w.heap.size + 2, rfl, fun W hW hS => ?_⟩
  rw [hz] at hW hS
  have hc' := fun (k : Nat) (cs : Array Value) (t : TypeId) (j : Nat) (v : Value) (hk3 : k < 3) h1 (h2 : cs[j]? = some v) => (World.cell?_of_block (a := ⟨w.heap.size + k, j, none⟩) (hW (w.heap.size + k) (by omega) (by omega))).trans (hc k cs t j v h1 h2)
  exact ⟨by omega, w.heap.size + 1, by omega, hc' 2 _ _ 3 _ (by omega) rfl rfl, .inr ⟨w.heap.size, s, none, 0, 0, by omega, hc' 1 _ _ 0 _ (by omega) rfl rfl, hc' 1 _ _ 8 _ (by omega) rfl rfl, hc' 0 _ _ 0 _ (by omega) rfl rfl, hc' 0 _ _ 1 _ (by omega) rfl rfl, rfl⟩⟩
/-- What the builder answers. -/
def BSAns (w : World) (e : Ending) (w' : World) : Prop := ∃ b o, e = .returned (bq b) ∧ Kept w w' ∧ SufC w'.heap.size w' b o
theorem bs_chain {w : World} {e : Ending} {os : List Obj} (h : ∀ W : World, W.heap.size = w.heap.size + os.length → Kept w W → (∀ (k : Nat) (cs : Array Value) (t : TypeId) (j : Nat) (v : Value), os[k]? = some (.cells cs t) → cs[j]? = some v → W.cell? ⟨w.heap.size + k, j, none⟩ = some v) → BSAns w e W) : BSAns w e (allocs w os) := h _ (allocs_size os w) (allocs_kept os w) (allocs_cell os w)
set_option maxHeartbeats 1000000 in
theorem buildSuffix_any (hi : Bool) (nm : ByteArray) (hs : Bool) (st : ByteArray) (it sl : Bool) (sk : Int) (s : ByteArray) (ek : Int) (es : ByteArray) (ir op : Bool) (w : World) (hg : hi = true → nm.toList.isEmpty = true → hs = false → sl = false ∧ sk = 2) :
    Calls Tryz.prog 24 #[sin hi nm hs st it sl sk s ek es ir op] w (BSAns w) := by
  have HG := Lib.hid hg
  clear hg
  cases hi with
  | false =>
    go_enter Tryz.func24, Tryz.ntmps24
    go_wp2
    go_ret
    show BSAns w (.returned (bq (w.heap.size + 1))) (allocs w [_, _])
    refine bs_chain fun W hz hk hc => ⟨_, none, rfl, hk, sufC_none (by rw [hz]; simp) (hc 1 _ _ 0 _ rfl rfl)⟩
  | true =>
  cases hnm : nm.toList.isEmpty with
  | false =>
    go_enter Tryz.func24, Tryz.ntmps24
    go_wp2
    go_ret
    show BSAns w (.returned (bq (w.heap.size + 2))) (allocs w [_, _, _])
    refine bs_chain fun W hz hk hc => ⟨_, some nm, rfl, hk, sufC_key (by rw [hz]; simp) (hc 2 _ _ 0 _ rfl rfl) (idk_name (by rw [hz]; simp) (hc 1 _ _ 0 _ rfl rfl) hnm)⟩
  | true =>
  obtain rfl := empty_bytes' hnm
  cases hs with
  | true =>
    cases it with
    | false =>
      go_enter Tryz.func24, Tryz.ntmps24
      go_wp2
      go_ret
      show BSAns w (.returned (bq (w.heap.size + 3))) (allocs w [_, _, _, _])
      refine bs_chain fun W hz hk hc => ?_
      have hI := idk_str (B := W.heap.size) (w := W) (i := w.heap.size + 1) (q := w.heap.size + 2) (by rw [hz]; simp) (by rw [hz]; simp) (hc 1 _ _ 0 _ rfl rfl) (hc 1 _ _ 1 _ rfl rfl) (hc 2 _ _ 0 _ rfl rfl) (hc 2 _ _ 1 _ rfl rfl)
      exact ⟨_, some st, rfl, hk, sufC_key (by rw [hz]; simp) (hc 3 _ _ 0 _ rfl rfl) hI⟩
    | true =>
      go_enter Tryz.func24, Tryz.ntmps24
      go_wp2
      go_ret
      show BSAns w (.returned (bq (w.heap.size + 8))) (allocs w [_, _, _, _, _, _, _, _, _])
      refine bs_chain fun W hz hk hc => ?_
      have hI := idk_str (B := W.heap.size) (w := W) (i := w.heap.size + 1) (q := w.heap.size + 2) (by rw [hz]; simp) (by rw [hz]; simp) (hc 1 _ _ 0 _ rfl rfl) (hc 1 _ _ 1 _ rfl rfl) (hc 2 _ _ 0 _ rfl rfl) (hc 2 _ _ 1 _ rfl rfl)
      exact ⟨_, none, rfl, hk, sufC_key (by rw [hz]; simp) (hc 8 _ _ 0 _ rfl rfl) hI⟩
  | false =>
    obtain ⟨rfl, rfl⟩ := HG.out rfl hnm rfl
    clear HG
    go_enter Tryz.func24, Tryz.ntmps24
    go_wp2_with fail
    refine (buildKey_str s _).mono ?_
    rintro e w1 ⟨hk, q, rfl, hq⟩
    obtain ⟨w2, hw2⟩ : ∃ W : World, W = (w.alloc (.cells #[.bool true, .string ⟨#[]⟩, .bool false, .string st, .bool it, .bool false, .int .i64 2, .string s, .int .i64 ek, .string es, .bool ir, .bool op] 55)).alloc (.cells #[.string ⟨#[]⟩, np, np, np, .bool false] 76) := ⟨_, rfl⟩
    rw [← hw2] at hk hq
    have hS : w2.heap.size = w.heap.size + 2 := by rw [hw2]; simp
    have hk2 : Kept w w2 := by rw [hw2]; exact (kept_alloc _ _).trans (kept_alloc _ _)
    have hA : w1.cell? ⟨w.heap.size, 5, none⟩ = some (.bool false) := kept_cell hk (by rw [hw2]; exact cell_old5 _ _ (cell_fresh _ _ _ 5 _ rfl))
    have hb : w1.heap[w.heap.size + 1]? = some (.cells [.string ⟨#[]⟩, np, np, np, .bool false].toArray 76) := by
      rw [hk.block _ (by omega), hw2]
      have := heap_alloc_new (w.alloc (.cells #[.bool true, .string ⟨#[]⟩, .bool false, .string st, .bool it, .bool false, .int .i64 2, .string s, .int .i64 ek, .string es, .bool ir, .bool op] 55)) (.cells #[.string ⟨#[]⟩, np, np, np, .bool false] 76)
      rw [show (w.alloc (.cells #[.bool true, .string ⟨#[]⟩, .bool false, .string st, .bool it, .bool false, .int .i64 2, .string s, .int .i64 ek, .string es, .bool ir, .bool op] 55)).heap.size = w.heap.size + 1 by simp] at this
      exact this
    have hrow := row_of hb
    have hd : w1.cell? ⟨w.heap.size + 1, 2, none⟩ = some np := hrow.cell (i := 2) (by decide)
    have hz := hrow.frozen 2
    have hset := hrow.set 2 (bq q)
    have hA2 : (w1.setCell ⟨w.heap.size + 1, 2, none⟩ (bq q)).cell? ⟨w.heap.size, 5, none⟩ = some (.bool false) := by
      rw [World.cell?_of_block (Go.Deep.blk_setCell_other _ _ _ _ (show w.heap.size ≠ w.heap.size + 1 by omega))]; exact hA
    have hk1 : Kept w w1 := hk2.trans hk
    have HX := Lib.hid (And.intro hset (And.intro hS (And.intro hk1 (And.intro hk.size hq))))
    clear hrow hb hset hk2 hw2 hk hq hS hk1 hA
    go_wp2
    go_ret
    obtain ⟨hset, hS, hk1, hsz, hq⟩ := HX.out
    have hw1 := hsz
    refine ⟨_, some s, rfl, (hk1.setCell (p := ⟨w.heap.size + 1, 2, none⟩) (Nat.le_succ _) (bq q)).alloc (by simp; omega) _, ?_⟩
    have ha := kept_alloc (w1.setCell ⟨w.heap.size + 1, 2, none⟩ (bq q)) (.cells #[bq (w.heap.size + 1), .bool false, .bool false] 120)
    have hset' := rowIs_kept hset ha
    have hsz2 : (w1.setCell ⟨w.heap.size + 1, 2, none⟩ (bq q)).heap.size = w1.heap.size := by simp
    refine sufC_key (i := w.heap.size + 1) (by simp) ?_ (idk_start (q := q) (by simp; omega) (hset'.cell (i := 0) (by decide)) (hset'.cell (i := 1) (by decide)) (hset'.cell (i := 4) (by decide)) (hset'.cell (i := 2) (by decide)) ?_)
    · have := cell_fresh (w1.setCell ⟨w.heap.size + 1, 2, none⟩ (bq q)) #[bq (w.heap.size + 1), .bool false, .bool false] 120 0 _ rfl
      rw [hsz2] at this
      exact this
    · refine hq _ (fun m h1 h2 => ?_) (by simp)
      rw [ha.block m (by rw [hsz2]; exact h2)]
      exact Go.Deep.blk_setCell_other _ _ _ _ (show m ≠ w.heap.size + 1 by omega)
end Go.Proofs.YticjhbklcpoonaaGreatDoor
