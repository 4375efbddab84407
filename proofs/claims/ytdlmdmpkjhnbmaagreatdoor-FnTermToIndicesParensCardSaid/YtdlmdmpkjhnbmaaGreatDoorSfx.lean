/- The laws' suffixes; the converter of toIndices. -/
import Derived.Test.YtdlmdmpkjhnbmaaGreatDoorTixb
import Derived.Test.YtdlmdmpkjhnbmaaGreatDoorKnv
namespace Go.Proofs.YtdlmdmpkjhnbmaaGreatDoor
open Go.RowKit Go.Gq
set_option maxRecDepth 100000
def SomeInt (w : World) (e : Ending) (w' : World) : Prop := ∃ z, e = .returned (.int .i64 z) ∧ w = w'
theorem rd_none {w : World} {n : Nat} {f : Nat → Value} (h : Rd w none n f) : n = 0 := by
  rcases h with h | ⟨b, off, e, h⟩
  · exact h
  · cases e
theorem rd_at0 {w : World} {b n : Nat} {f : Nat → Value} (h : Rd w (some ⟨b, 0, none⟩) n f) {k : Nat} (hk : k < n) : w.cell? ⟨b, k, none⟩ = some (f k) := by
  obtain ⟨b2, o, e, hc⟩ := h.at hk
  injection e with e
  injection e with e1 e2
  subst e1 e2
  rw [Nat.zero_add] at hc
  exact hc
theorem beq_yes (s : ByteArray) : (s.toList == s.toList) = true := by simp
section
attribute [local go_sem] Lib.run_eql_slice_nil
set_option maxHeartbeats 1000000 in
theorem zzClone_rd (a : Option Addr) (n c : Nat) (f : Nat → ByteArray) (w : World) (hn : n ≤ 1048576) (h : Rd w a n (fun i => Value.string (f i))) :
    Calls Tryz.prog 27 #[.slice a n c] w fun e w' => ∃ a' c', e = .returned (.slice a' n c') ∧ Rd w' a' n (fun i => Value.string (f i)) ∧ Kept w w' := by
  cases a with
  | none =>
    obtain rfl := rd_none h
    go_enter Tryz.func27, Tryz.ntmps27
    go_wp2
    go_ret
    exact ⟨none, 0, rfl, .inl rfl, Below.refl _ _⟩
  | some x =>
    have hmk := make_gen 22 9 Tryz.underlying22 tixStr rfl (by omega) n n (Nat.le_refl _) (by omega)
    go_enter Tryz.func27, Tryz.ntmps27
    go_wp2
    obtain ⟨W, HW⟩ : ∃ W : World, W = w.alloc (.cells (madeCells #[Value.string ⟨#[]⟩] n) 9) := ⟨_, rfl⟩
    have hrow : W.rowIs w.heap.size 9 n (fun _ => Value.string ⟨#[]⟩) := by rw [HW]; exact World.rowIs_made w _ n 9
    have hk : Kept w W := by rw [HW]; exact kept_alloc _ _
    rw [← HW]
    clear HW hmk
    go_loopw [4] (fun i wr => ∃ k : Nat, k ≤ n ∧ i = .int .i64 k ∧ wr.rowIs w.heap.size 9 n (fun j => if j < k then Value.string (f j) else Value.string ⟨#[]⟩) ∧ Kept w wr) (fun i _ => n - (intOf i).toNat)
    case atStart => exact ⟨0, Nat.zero_le _, rfl, by simpa using hrow, hk⟩
    case round =>
      obtain ⟨k, hk, rfl, hrow, hkp⟩ := hrel
      by_cases hlt : k < n
      · obtain ⟨b, off, hx, hc⟩ := (h.kept hkp).at hlt
        injection hx with hx
        subst hx
        have hd := hrow.cell hlt
        have hz := hrow.frozen k
        have hset := (hrow.set k (Value.string (f k))).congr (g := fun j => if j < k + 1 then Value.string (f j) else Value.string ⟨#[]⟩) (fun j hj => by
          by_cases e : j = k
          · subst e; simp
          · simp only [if_neg e]; by_cases e2 : j < k
            · rw [if_pos e2, if_pos (by omega)]
            · rw [if_neg e2, if_neg (by omega)])
        have hkp2 := hkp.setCell (p := ⟨w.heap.size, k, none⟩) (Nat.le_refl _) (Value.string (f k))
        have Hset := Lib.hid hset
        have Hkp := Lib.hid hkp2
        simp only [Nat.lt_irrefl, if_false] at hd
        clear hset hkp2 hrow hkp h
        go_wp2
        go_roundw
        case rel => exact ⟨k + 1, by omega, by go_num, Hset.out, Hkp.out⟩
        case measure => simp [intOf]; omega
      · have : k = n := by omega
        subst this
        go_wp2
        go_ret
        refine ⟨_, _, rfl, rd_row (hrow.congr fun i hi => by simp [hi]), hkp⟩
end
set_option maxHeartbeats 1000000 in
theorem zzStringsBytes_any (a0 : Option Addr) (n0 c0 : Nat) (s : Nat → ByteArray) (w : World) (h0 : Rd w a0 n0 (fun i => .string (s i))) (hn : n0 ≤ 9223372036854775807) :
    Calls Tryz.prog 26 #[.slice a0 n0 c0] w (SomeInt w) := by
  have H0 := Lib.hid h0
  clear h0
  go_enter Tryz.func26, Tryz.ntmps26
  go_wp2
  go_loop [3, 4] (fun t i => ∃ (k : Nat) (z : Int), k ≤ n0 ∧ i = .int .i64 k ∧ t = .int .i64 z) (fun _ i => n0 - (intOf i).toNat)
  case atStart => exact ⟨0, _, Nat.zero_le _, rfl, rfl⟩
  case round =>
    obtain ⟨k, z, hk, rfl, rfl⟩ := hrel
    by_cases hlt : k < n0
    · obtain ⟨b, off, e1, hc⟩ := H0.out.at hlt
      subst e1
      obtain ⟨x, hx⟩ : ∃ x, x = s k := ⟨_, rfl⟩
      rw [← hx] at hc
      clear hx
      go_wp2
      go_round
      case rel => exact ⟨k + 1, _, by omega, by go_num, rfl⟩
      case measure => simp [intOf]; omega
    · go_wp2
      go_ret
      exact ⟨_, rfl, rfl⟩
/-- The key of a suffix's word: none at the empty word and at the question mark. -/
def kz (x : ByteArray) : Option ByteArray := if x.toList.isEmpty = true then none else if (x.toList == [63]) = true then none else some x
theorem kz_some {x : ByteArray} (h1 : x.toList.isEmpty = false) (h2 : (x.toList == [63]) = false) : kz x = some x := by unfold kz; rw [h1, h2]; rfl
theorem kz_e {x : ByteArray} (h1 : x.toList.isEmpty = true) : kz x = none := by unfold kz; rw [h1]; rfl
theorem kz_q {x : ByteArray} (h2 : (x.toList == [63]) = true) : kz x = none := by
  unfold kz; rw [h2]; simp
def kzs (n : Nat) (s : Nat → ByteArray) : List (Option ByteArray) := (List.range n).map (fun i => kz (s i))
def RefAns (n : Nat) (s : Nat → ByteArray) (w : World) (e : Ending) (w' : World) : Prop :=
  w = w' ∧ ((e = .returned (.bool true) ∧ allSome (kzs n s) = none) ∨ (e = .returned (.bool false) ∧ allSome (kzs n s) = some ((List.range n).map s)))
set_option maxHeartbeats 1000000 in
theorem zzRefused_any (a0 : Option Addr) (n0 c0 : Nat) (s : Nat → ByteArray) (w : World) (h0 : Rd w a0 n0 (fun i => .string (s i))) (hn : n0 ≤ 9223372036854775807) :
    Calls Tryz.prog 30 #[.slice a0 n0 c0] w (RefAns n0 s w) := by
  have H0 := Lib.hid h0
  clear h0
  go_enter Tryz.func30, Tryz.ntmps30
  go_wp2
  go_loop [3] (fun i => ∃ (k : Nat), k ≤ n0 ∧ i = .int .i64 k ∧ Hid (∀ j, j < k → kz (s j) = some (s j))) (fun i => n0 - (intOf i).toNat)
  case atStart => exact ⟨0, Nat.zero_le _, rfl, fun j hj => absurd hj (Nat.not_lt_zero _)⟩
  case round =>
    obtain ⟨k, hk, rfl, HJ⟩ := hrel
    by_cases hlt : k < n0
    · obtain ⟨b, off, e1, hc⟩ := H0.out.at hlt
      subst e1
      obtain ⟨x, hx⟩ : ∃ x, x = s k := ⟨_, rfl⟩
      rw [← hx] at hc
      have HX := Lib.hid hx
      clear hx
      have bad : kz x = none → allSome (kzs n0 s) = none := fun h => allSome_none _ (List.mem_map.2 ⟨k, by simpa using hlt, by rw [← HX.out]; exact h⟩)
      have HBad := Lib.hid bad
      clear bad
      cases e1 : x.toList.isEmpty with
      | true =>
        go_wp2
        go_ret
        exact ⟨rfl, .inl ⟨rfl, HBad.out (kz_e e1)⟩⟩
      | false =>
        cases e2 : (x.toList == [63]) with
        | true =>
          go_wp2
          go_ret
          exact ⟨rfl, .inl ⟨rfl, HBad.out (kz_q e2)⟩⟩
        | false =>
          have HK := Lib.hid (kz_some e1 e2)
          go_wp2
          go_round
          case rel => exact ⟨k + 1, by omega, by go_num, fun j hj => by
            by_cases ej : j = k
            · subst ej; rw [← HX.out]; exact HK.out
            · exact HJ.out j (by omega)⟩
          case measure => simp [intOf]; omega
    · have hk2 : (n0 : Int) ≤ (k : Int) := by omega
      go_wp2
      go_ret
      refine ⟨rfl, .inr ⟨rfl, allSome_map ?_⟩⟩
      rw [List.map_map]
      exact List.map_congr_left fun j hj => HJ.out j (by have := List.mem_range.1 hj; omega)
theorem below_al {B : Nat} {a w : World} (h : Below B a w) (hB : B ≤ a.heap.size) (o : Obj) : Below B a (w.alloc o) := h.alloc (Nat.le_trans hB h.size) o
/-- A suffix that the laws lay. -/
def SufH (w : World) (b : Nat) (o : Option ByteArray) : Prop :=
  ∃ p x y, w.heap[b]? = some (.cells #[p, x, y] 104) ∧ ((p = .pointer none ∧ o = none) ∨ ∃ i nm, p = bq i ∧ w.heap[i]? = some (.cells #[.string nm, .pointer none, .pointer none, .pointer none, .bool false] 71) ∧ nm.toList.isEmpty = false ∧ o = some nm)
theorem heap_lt {w : World} {b : Nat} {o : Obj} (h : w.heap[b]? = some o) : b < w.heap.size := (Array.getElem?_eq_some_iff.1 h).1
theorem SufH.same {w w' : World} {b : Nat} {o : Option ByteArray} (h : SufH w b o) (k : ∀ (j : Nat) (cs : Array Value) (t : TypeId), t ≠ 102 → w.heap[j]? = some (.cells cs t) → w'.heap[j]? = w.heap[j]?) : SufH w' b o := by
  obtain ⟨p, x, y, h1, h2⟩ := h
  refine ⟨p, x, y, by rw [k b _ _ (by decide) h1]; exact h1, ?_⟩
  rcases h2 with h2 | ⟨i, nm, e, h3, h4⟩
  · exact .inl h2
  · exact .inr ⟨i, nm, e, by rw [k i _ _ (by decide) h3]; exact h3, h4⟩
theorem SufH.alloc {w : World} {b : Nat} {o : Option ByteArray} (h : SufH w b o) (ob : Obj) : SufH (w.alloc ob) b o := h.same fun _ _ _ _ hj => heap_alloc_old w ob (heap_lt hj)
theorem SufH.grown {w w' : World} {b : Nat} {o : Option ByteArray} {v : Value} {B n : Nat} {xs : List Value} (h : SufH w b o) (hown : w.ownsRow B 102 1 v n xs) (hg : w.grownBy w' v.ownBlock) : SufH w' b o := by
  refine h.same fun j cs t ht hj => hg.block j (heap_lt hj) fun e => ?_
  rcases hown.2 with ⟨h1, _⟩ | ⟨g, cap, cur, h1, _, h2, _⟩
  · rw [h1] at e; cases e
  · rw [h1] at e
    simp only [Value.ownBlock, Option.some.injEq] at e
    subst e
    rw [hj] at h2
    injection h2 with h2
    injection h2 with h2 h3
    exact ht h3
theorem cell_heap {w : World} {b : Nat} {cs : Array Value} {t : TypeId} (h : w.heap[b]? = some (.cells cs t)) {k : Nat} {v : Value} (hk : cs[k]? = some v) : w.cell? ⟨b, k, none⟩ = some v := by
  simp only [World.cell?, h]
  simpa using hk
theorem SufH.is {w : World} {b : Nat} {o : Option ByteArray} (h : SufH w b o) : SufIs w.heap.size w b o := by
  obtain ⟨p, x, y, h1, h2⟩ := h
  refine ⟨heap_lt h1, ?_⟩
  rcases h2 with ⟨rfl, h2⟩ | ⟨i, nm, rfl, h3, h4, h5⟩
  · exact .inl ⟨cell_heap h1 rfl, h2⟩
  · exact .inr ⟨i, cell_heap h1 rfl, heap_lt h3, .inl ⟨nm, h4, cell_heap h3 rfl, h5⟩⟩
theorem map_upd (k z : Nat) (sb : Nat → Nat) : (List.range (k + 1)).map (fun j => bq (if j = k then z else sb j)) = (List.range k).map (fun j => bq (sb j)) ++ [bq z] := by
  rw [List.range_succ, List.map_append, List.map_singleton, if_pos rfl]
  congr 1
  exact List.map_congr_left fun j hj => by have := List.mem_range.1 hj; rw [if_neg (by omega)]
/-- The suffixes of words. -/
def SufAns (n : Nat) (s : Nat → ByteArray) (w : World) (e : Ending) (w' : World) : Prop :=
  ∃ (g cap : Nat) (sb : Nat → Nat), e = .returned (.slice (some ⟨g, 0, none⟩) n cap) ∧ g < w'.heap.size ∧ Rd w' (some ⟨g, 0, none⟩) n (fun j => bq (sb j)) ∧ (∀ j, j < n → SufIs w'.heap.size w' (sb j) (kz (s j))) ∧ Kept w w'
set_option maxHeartbeats 4000000 in
theorem zzSuffixes_any (a0 : Option Addr) (n0 c0 : Nat) (s : Nat → ByteArray) (w : World) (h0 : Rd w a0 n0 (fun i => .string (s i))) (hn : n0 ≤ 1048576) :
    Calls Tryz.prog 28 #[.slice a0 n0 c0] w (SufAns n0 s w) := by
  have H0 := Lib.hid h0
  have hmk : ∀ W : World, (Instr.makeSlice 56 (.int .i64 0) (.int .i64 (n0 : Int))).run Tryz.prog W = .ok (.slice (some ⟨W.heap.size, 0, none⟩) 0 n0) (W.alloc (.cells (madeCells #[.pointer none] n0) 102)) := fun W => make_gen 56 102 Tryz.underlying56 tixSfx rfl (by omega) 0 n0 (Nat.zero_le _) (by omega) W
  clear h0
  go_enter Tryz.func28, Tryz.ntmps28
  go_wp2
  obtain ⟨W, HW⟩ : ∃ W : World, W = w.alloc (.cells (madeCells #[.pointer none] n0) 102) := ⟨_, rfl⟩
  have HI : Hid (Below w.heap.size w W ∧ W.ownsRow w.heap.size 102 1 (.slice (some ⟨w.heap.size, 0, none⟩) 0 n0) 0 []) := by
    rw [HW]
    exact ⟨kept_alloc _ _, World.ownsRow_made w _ n0 (Nat.le_refl _) (by simp only [maxLen]; omega) (made_size _ _)⟩
  rw [← HW]
  clear HW hmk
  go_loopw [3, 4] (fun x i wr => ∃ (k g cap : Nat) (sb : Nat → Nat), k ≤ n0 ∧ i = .int .i64 k ∧ x = .slice (some ⟨g, 0, none⟩) k cap ∧ Hid (Below w.heap.size w wr ∧ wr.ownsRow w.heap.size 102 1 (.slice (some ⟨g, 0, none⟩) k cap) k ((List.range k).map (fun j => bq (sb j))) ∧ ∀ j, j < k → SufH wr (sb j) (kz (s j)))) (fun _ i _ => n0 - (intOf i).toNat)
  case atStart => exact ⟨0, w.heap.size, n0, fun _ => 0, Nat.zero_le _, rfl, rfl, HI.out.1, HI.out.2, fun j hj => absurd hj (Nat.not_lt_zero _)⟩
  case round =>
    obtain ⟨k, g, cap, sb, hk, rfl, rfl, HR⟩ := hrel
    obtain ⟨hb, ho, hall⟩ := HR.out
    by_cases hlt : k < n0
    · obtain ⟨xb, xo, e1, hc0⟩ := (H0.out.kept hb).at hlt
      subst e1
      obtain ⟨x, hx⟩ : ∃ x, x = s k := ⟨_, rfl⟩
      rw [← hx] at hc0
      have HX := Lib.hid hx
      clear hx HR HI
      cases e1 : x.toList.isEmpty with
      | true =>
        have hc := cell_fresh (wr.alloc (.cells #[.pointer none, .bool true, .bool false] 104)) #[bq (wr.heap.size)] 102 0 (bq (wr.heap.size)) rfl
        have hsz : (wr.alloc (.cells #[.pointer none, .bool true, .bool false] 104)).heap.size = wr.heap.size + 1 := by simp
        rw [hsz] at hc
        have hb3 := (below_al (below_al hb (Nat.le_refl _) (.cells #[.pointer none, .bool true, .bool false] 104)) (Nat.le_refl _) (.cells #[bq (wr.heap.size)] 102))
        have hB2 : w.heap.size ≤ ((wr.alloc (.cells #[.pointer none, .bool true, .bool false] 104)).alloc (.cells #[bq (wr.heap.size)] 102)).heap.size := hb3.size
        have hown2 := (own_alloc (own_alloc ho (.cells #[.pointer none, .bool true, .bool false] 104)) (.cells #[bq (wr.heap.size)] 102))
        have hnew : SufH ((wr.alloc (.cells #[.pointer none, .bool true, .bool false] 104)).alloc (.cells #[bq (wr.heap.size)] 102)) (wr.heap.size) (kz x) := by
          refine SufH.alloc ?_ _
          rw [kz_e e1]
          refine ⟨.pointer none, .bool true, .bool false, ?_, .inl ⟨rfl, rfl⟩⟩
          exact heap_alloc_new _ _
        have hall2 : ∀ j, j < k → SufH ((wr.alloc (.cells #[.pointer none, .bool true, .bool false] 104)).alloc (.cells #[bq (wr.heap.size)] 102)) (sb j) (kz (s j)) := fun j hj => (SufH.alloc (SufH.alloc (hall j hj) (.cells #[.pointer none, .bool true, .bool false] 104)) (.cells #[bq (wr.heap.size)] 102))
        have HW := Lib.hid (And.intro hb3 (And.intro hall2 (And.intro hnew hown2)))
        clear hb hb3 hnew hall hall2 hsz ho
        go_wp2_with (first
          | (at_builtin; refine wpl_app1g rfl _ _ 56 102 rfl Tryz.underlying56 tixSfx rfl (by omega) w.heap.size _ (.slice (some ⟨g, 0, none⟩) k cap) k _ rfl hown2 (wr.heap.size + 1) (bq (wr.heap.size)) rfl hc rfl (by omega) hB2 ?_; intro g2 cap2 w2 ho2 hb2 hg2))
        have HZ := Lib.hid (And.intro ho2 (And.intro hb2 hg2))
        clear ho2 hb2 hg2 hown2 hc hB2
        go_roundw
        case rel =>
          obtain ⟨hb3, hall2, hnew, hown2⟩ := HW.out
          obtain ⟨ho2, hb2, hg2⟩ := HZ.out
          refine ⟨k + 1, g2, cap2, fun j => if j = k then wr.heap.size else sb j, by omega, by go_num, rfl, hb3.trans hb2, ?_, fun j hj => ?_⟩
          · have e9 := ho2
            rw [← map_upd k (wr.heap.size) sb] at e9
            exact e9
          · show SufH w2 (if j = k then wr.heap.size else sb j) (kz (s j))
            by_cases e : j = k
            · rw [if_pos e, e, ← HX.out]
              exact hnew.grown hown2 hg2
            · rw [if_neg e]
              exact (hall2 j (by omega)).grown hown2 hg2
        case measure => simp [intOf]; omega
      | false =>
        cases e2 : (x.toList == [63]) with
        | true =>
          have hc := cell_fresh (wr.alloc (.cells #[.pointer none, .bool false, .bool true] 104)) #[bq (wr.heap.size)] 102 0 (bq (wr.heap.size)) rfl
          have hsz : (wr.alloc (.cells #[.pointer none, .bool false, .bool true] 104)).heap.size = wr.heap.size + 1 := by simp
          rw [hsz] at hc
          have hb3 := (below_al (below_al hb (Nat.le_refl _) (.cells #[.pointer none, .bool false, .bool true] 104)) (Nat.le_refl _) (.cells #[bq (wr.heap.size)] 102))
          have hB2 : w.heap.size ≤ ((wr.alloc (.cells #[.pointer none, .bool false, .bool true] 104)).alloc (.cells #[bq (wr.heap.size)] 102)).heap.size := hb3.size
          have hown2 := (own_alloc (own_alloc ho (.cells #[.pointer none, .bool false, .bool true] 104)) (.cells #[bq (wr.heap.size)] 102))
          have hnew : SufH ((wr.alloc (.cells #[.pointer none, .bool false, .bool true] 104)).alloc (.cells #[bq (wr.heap.size)] 102)) (wr.heap.size) (kz x) := by
            refine SufH.alloc ?_ _
            rw [kz_q e2]
            refine ⟨.pointer none, .bool false, .bool true, ?_, .inl ⟨rfl, rfl⟩⟩
            exact heap_alloc_new _ _
          have hall2 : ∀ j, j < k → SufH ((wr.alloc (.cells #[.pointer none, .bool false, .bool true] 104)).alloc (.cells #[bq (wr.heap.size)] 102)) (sb j) (kz (s j)) := fun j hj => (SufH.alloc (SufH.alloc (hall j hj) (.cells #[.pointer none, .bool false, .bool true] 104)) (.cells #[bq (wr.heap.size)] 102))
          have HW := Lib.hid (And.intro hb3 (And.intro hall2 (And.intro hnew hown2)))
          clear hb hb3 hnew hall hall2 hsz ho
          go_wp2_with (first
            | (at_builtin; refine wpl_app1g rfl _ _ 56 102 rfl Tryz.underlying56 tixSfx rfl (by omega) w.heap.size _ (.slice (some ⟨g, 0, none⟩) k cap) k _ rfl hown2 (wr.heap.size + 1) (bq (wr.heap.size)) rfl hc rfl (by omega) hB2 ?_; intro g2 cap2 w2 ho2 hb2 hg2))
          have HZ := Lib.hid (And.intro ho2 (And.intro hb2 hg2))
          clear ho2 hb2 hg2 hown2 hc hB2
          go_roundw
          case rel =>
            obtain ⟨hb3, hall2, hnew, hown2⟩ := HW.out
            obtain ⟨ho2, hb2, hg2⟩ := HZ.out
            refine ⟨k + 1, g2, cap2, fun j => if j = k then wr.heap.size else sb j, by omega, by go_num, rfl, hb3.trans hb2, ?_, fun j hj => ?_⟩
            · have e9 := ho2
              rw [← map_upd k (wr.heap.size) sb] at e9
              exact e9
            · show SufH w2 (if j = k then wr.heap.size else sb j) (kz (s j))
              by_cases e : j = k
              · rw [if_pos e, e, ← HX.out]
                exact hnew.grown hown2 hg2
              · rw [if_neg e]
                exact (hall2 j (by omega)).grown hown2 hg2
          case measure => simp [intOf]; omega
        | false =>
          have hc := cell_fresh ((wr.alloc (.cells #[.string x, .pointer none, .pointer none, .pointer none, .bool false] 71)).alloc (.cells #[bq wr.heap.size, .bool false, .bool false] 104)) #[bq (wr.heap.size + 1)] 102 0 (bq (wr.heap.size + 1)) rfl
          have hsz : ((wr.alloc (.cells #[.string x, .pointer none, .pointer none, .pointer none, .bool false] 71)).alloc (.cells #[bq wr.heap.size, .bool false, .bool false] 104)).heap.size = wr.heap.size + 1 + 1 := by simp
          rw [hsz] at hc
          have hb3 := (below_al (below_al (below_al hb (Nat.le_refl _) (.cells #[.string x, .pointer none, .pointer none, .pointer none, .bool false] 71)) (Nat.le_refl _) (.cells #[bq wr.heap.size, .bool false, .bool false] 104)) (Nat.le_refl _) (.cells #[bq (wr.heap.size + 1)] 102))
          have hB2 : w.heap.size ≤ (((wr.alloc (.cells #[.string x, .pointer none, .pointer none, .pointer none, .bool false] 71)).alloc (.cells #[bq wr.heap.size, .bool false, .bool false] 104)).alloc (.cells #[bq (wr.heap.size + 1)] 102)).heap.size := hb3.size
          have hown2 := (own_alloc (own_alloc (own_alloc ho (.cells #[.string x, .pointer none, .pointer none, .pointer none, .bool false] 71)) (.cells #[bq wr.heap.size, .bool false, .bool false] 104)) (.cells #[bq (wr.heap.size + 1)] 102))
          have hnew : SufH (((wr.alloc (.cells #[.string x, .pointer none, .pointer none, .pointer none, .bool false] 71)).alloc (.cells #[bq wr.heap.size, .bool false, .bool false] 104)).alloc (.cells #[bq (wr.heap.size + 1)] 102)) (wr.heap.size + 1) (kz x) := by
            refine SufH.alloc ?_ _
            rw [kz_some e1 e2]
            refine ⟨bq wr.heap.size, .bool false, .bool false, ?_, .inr ⟨_, x, rfl, (heap_alloc_old _ _ (by simp)).trans (heap_alloc_new _ _), e1, rfl⟩⟩
            rw [show wr.heap.size + 1 = (wr.alloc (.cells #[.string x, .pointer none, .pointer none, .pointer none, .bool false] 71)).heap.size by simp]; exact heap_alloc_new _ _
          have hall2 : ∀ j, j < k → SufH (((wr.alloc (.cells #[.string x, .pointer none, .pointer none, .pointer none, .bool false] 71)).alloc (.cells #[bq wr.heap.size, .bool false, .bool false] 104)).alloc (.cells #[bq (wr.heap.size + 1)] 102)) (sb j) (kz (s j)) := fun j hj => (SufH.alloc (SufH.alloc (SufH.alloc (hall j hj) (.cells #[.string x, .pointer none, .pointer none, .pointer none, .bool false] 71)) (.cells #[bq wr.heap.size, .bool false, .bool false] 104)) (.cells #[bq (wr.heap.size + 1)] 102))
          have HW := Lib.hid (And.intro hb3 (And.intro hall2 (And.intro hnew hown2)))
          clear hb hb3 hnew hall hall2 hsz ho
          go_wp2_with (first
            | (at_builtin; refine wpl_app1g rfl _ _ 56 102 rfl Tryz.underlying56 tixSfx rfl (by omega) w.heap.size _ (.slice (some ⟨g, 0, none⟩) k cap) k _ rfl hown2 (wr.heap.size + 1 + 1) (bq (wr.heap.size + 1)) rfl hc rfl (by omega) hB2 ?_; intro g2 cap2 w2 ho2 hb2 hg2))
          have HZ := Lib.hid (And.intro ho2 (And.intro hb2 hg2))
          clear ho2 hb2 hg2 hown2 hc hB2
          go_roundw
          case rel =>
            obtain ⟨hb3, hall2, hnew, hown2⟩ := HW.out
            obtain ⟨ho2, hb2, hg2⟩ := HZ.out
            refine ⟨k + 1, g2, cap2, fun j => if j = k then wr.heap.size + 1 else sb j, by omega, by go_num, rfl, hb3.trans hb2, ?_, fun j hj => ?_⟩
            · have e9 := ho2
              rw [← map_upd k (wr.heap.size + 1) sb] at e9
              exact e9
            · show SufH w2 (if j = k then wr.heap.size + 1 else sb j) (kz (s j))
              by_cases e : j = k
              · rw [if_pos e, e, ← HX.out]
                exact hnew.grown hown2 hg2
              · rw [if_neg e]
                exact (hall2 j (by omega)).grown hown2 hg2
          case measure => simp [intOf]; omega
    · obtain rfl : k = n0 := by omega
      go_wp2
      go_ret
      obtain ⟨hb, ho, hall⟩ := HR.out
      refine ⟨g, cap, sb, rfl, (ho.lt g rfl).2, (own_rd ho rfl _ fun i hi => by simp [hi]).2, fun j hj => (hall j hj).is, hb⟩
/-- What the converter answers. -/
def TZAns (n : Nat) (p : Nat → ByteArray) (ks : List (Option ByteArray)) (w : World) (e : Ending) (w' : World) : Prop :=
  Kept w w' ∧ ((allSome ks = none ∧ e = .returned (.tuple #[.slice none 0 0, .bool true, .bool true])) ∨ ∃ (ss : List ByteArray) (a : Addr) (c : Nat), allSome ks = some ss ∧ e = .returned (.tuple #[.slice (some a) (n + ss.length) c, .bool false, .bool true]) ∧
    Rd w' (some a) (n + ss.length) (fun i => .string (((List.range n).map p ++ ss).getD i ⟨#[]⟩)))
section
attribute [local go_sem] Lib.run_eql_slice_nil
set_option maxHeartbeats 4000000 in
theorem ZZtermToIndices_any (t : Nat) (ks : List (Option ByteArray)) (a0 : Option Addr) (n c0 : Nat) (p : Nat → ByteArray) (w : World) (ht : TermIx w.heap.size w t ks) (h0 : Rd w a0 n (fun i => .string (p i))) (hn : n ≤ 1048576) (hk : ks.length ≤ 3145728) :
    Calls Tryz.prog 29 #[bq t, .slice a0 n c0] w (TZAns n p ks w) := by
  have H0 := Lib.hid h0
  have HT := Lib.hid ht
  have HKL := Lib.hid hk
  have hmk : ∀ W : World, (Instr.makeSlice 92 (.int .i64 0) (.int .i64 (n : Int))).run Tryz.prog W = .ok (.slice (some ⟨W.heap.size, 0, none⟩) 0 n) (W.alloc (.cells (madeCells #[.nilIface] n) 20)) := fun W => make_gen 92 20 Tryz.underlying92 tixAny rfl (by omega) 0 n (Nat.zero_le _) (by omega) W
  clear h0 ht hk
  go_enter Tryz.func29, Tryz.ntmps29
  go_wp2
  obtain ⟨W, HW⟩ : ∃ W : World, W = w.alloc (.cells (madeCells #[.nilIface] n) 20) := ⟨_, rfl⟩
  have HI : Hid (Below w.heap.size w W ∧ W.ownsRow w.heap.size 20 1 (.slice (some ⟨w.heap.size, 0, none⟩) 0 n) 0 []) := by
    rw [HW]
    exact ⟨kept_alloc _ _, World.ownsRow_made w _ n (Nat.le_refl _) (by simp only [maxLen]; omega) (made_size _ _)⟩
  rw [← HW]
  clear HW hmk
  go_loopw [7, 9, 22] (fun x _ i wr => ∃ (k g cap : Nat), k ≤ n ∧ i = .int .i64 k ∧ x = .slice (some ⟨g, 0, none⟩) k cap ∧ Hid (Below w.heap.size w wr ∧ wr.ownsRow w.heap.size 20 1 (.slice (some ⟨g, 0, none⟩) k cap) k ((List.range k).map (fun j => sv (p j))))) (fun _ _ i _ => n - (intOf i).toNat)
  case atStart => exact ⟨0, w.heap.size, n, Nat.zero_le _, rfl, rfl, HI.out.1, HI.out.2⟩
  case round =>
  obtain ⟨k, g, cap, hk, rfl, rfl, HR⟩ := hrel
  obtain ⟨hb, ho⟩ := HR.out
  by_cases hlt : k < n
  · obtain ⟨xb, xo, e1, hc0⟩ := (H0.out.kept hb).at hlt
    subst e1
    obtain ⟨x, hx⟩ : ∃ x, x = p k := ⟨_, rfl⟩
    rw [← hx] at hc0
    have HX := Lib.hid hx
    have q4 : (0 : Int) ≤ (k : Int) := by omega
    have q5 : (k : Int) < (n : Int) := by omega
    have hc := cell_fresh wr #[sv x] 20 0 (sv x) rfl
    have hb3 := below_al hb (Nat.le_refl _) (.cells #[sv x] 20)
    have hB2 : w.heap.size ≤ (wr.alloc (.cells #[sv x] 20)).heap.size := hb3.size
    have hown2 := own_alloc ho (.cells #[sv x] 20)
    have HW := Lib.hid hb3
    clear hx HR HI hb hb3 ho
    go_wp2_with (first
      | (at_builtin; refine wpl_app1 rfl _ _ 92 20 rfl Tryz.underlying92 tixAny rfl (by omega) w.heap.size _ (.slice (some ⟨g, 0, none⟩) k cap) k _ rfl hown2 wr.heap.size (sv x) rfl hc rfl (by omega) hB2 ?_; intro g2 cap2 w2 ho2 hb2))
    have HZ := Lib.hid (And.intro ho2 hb2)
    clear ho2 hb2 hown2 hc hB2
    go_roundw
    case rel =>
      refine ⟨k + 1, g2, cap2, by omega, by go_num, rfl, HW.out.trans HZ.out.2, ?_⟩
      rw [List.range_succ, List.map_append, List.map_singleton, ← HX.out]
      exact HZ.out.1
    case measure => simp [intOf]; omega
  obtain rfl : k = n := by omega
  have hlen : ((List.range k).map (fun j => sv (p j))).length = k := by simp
  have hcall := HT.out wr _ ((List.range k).map (fun j => sv (p j))) hb (by rw [hlen]; exact ho) (by rw [hlen]; have := HKL.out; omega) hb.size
  have Hcall := Lib.hid hcall
  have HB := Lib.hid hb
  have hkk : (k : Int) ≤ (k : Int) := Int.le_refl _
  have HL := Lib.hid hlen
  clear hlt hk hb ho hlen hcall HR HI
  go_wp2_with fail
  refine Hcall.out.mono ?_
  rintro e w3 ⟨hb3, hr⟩
  have HB3 := Lib.hid (HB.out.trans hb3)
  clear hb3
  rcases hr with ⟨h3, rfl⟩ | ⟨ss, g3, cap3, h3, rfl, h5⟩
  · have H3 := Lib.hid h3
    clear h3
    go_wp2
    refine bodyPost_ret (v := .tuple #[.slice none 0 0, .bool true, .bool true]) (by simp [results, Tryz.results29, go_sem]) rfl ?_
    exact ⟨HB3.out, .inl ⟨H3.out, rfl⟩⟩
  rw [HL.out] at h5 ⊢
  have hss := allSome_len h3
  obtain ⟨M, hM⟩ : ∃ M, M = k + ss.length := ⟨_, rfl⟩
  obtain ⟨Ls, hLs⟩ : ∃ Ls : List ByteArray, Ls = (List.range k).map p ++ ss := ⟨_, rfl⟩
  have hML : Ls.length = M := by rw [hLs, hM]; simp
  have hM2 : M ≤ 4194304 := by have := HKL.out; omega
  have hcont : (List.range k).map (fun j => sv (p j)) ++ ss.map sv = Ls.map sv := by rw [hLs, List.map_append, List.map_map]; rfl
  rw [hcont, ← hM] at h5
  rw [← hM]
  have hrd : Rd w3 (some ⟨g3, 0, none⟩) M (fun i => sv (Ls.getD i ⟨#[]⟩)) := (own_rd h5 rfl _ fun i hi => by simp [hML, hi, List.getD_eq_getElem?_getD]).2
  have HRD := Lib.hid hrd
  have H3 := Lib.hid (And.intro h3 (And.intro hM hLs))
  have HML := Lib.hid hML
  have hmk2 : ∀ W : World, (Instr.makeSlice 22 (.int .i64 0) (.int .i64 (M : Int))).run Tryz.prog W = .ok (.slice (some ⟨W.heap.size, 0, none⟩) 0 M) (W.alloc (.cells (madeCells #[.string ⟨#[]⟩] M) 9)) := fun W => make_gen 22 9 Tryz.underlying22 tixStr rfl (by omega) 0 M (Nat.zero_le _) (by omega) W
  clear h3 h5 hrd hss hM hLs hML hcont
  go_wp2
  obtain ⟨W, HW⟩ : ∃ W : World, W = w3.alloc (.cells (madeCells #[.string ⟨#[]⟩] M) 9) := ⟨_, rfl⟩
  have HI : Hid (Below w3.heap.size w3 W ∧ W.ownsRow w3.heap.size 9 1 (.slice (some ⟨w3.heap.size, 0, none⟩) 0 M) 0 []) := by
    rw [HW]
    exact ⟨kept_alloc _ _, World.ownsRow_made w3 _ M (Nat.le_refl _) (by simp only [maxLen]; omega) (made_size _ _)⟩
  rw [← HW]
  clear HW hmk2
  go_loopw [11, 12, 14, 15, 16, 42] (fun x al _ _ _ i wr => ∃ (j g cap : Nat), j ≤ M ∧ i = .int .i64 j ∧ al = .bool true ∧ x = .slice (some ⟨g, 0, none⟩) j cap ∧ Hid (Below w3.heap.size w3 wr ∧ wr.ownsRow w3.heap.size 9 1 (.slice (some ⟨g, 0, none⟩) j cap) j ((List.range j).map (fun i => .string (Ls.getD i ⟨#[]⟩))))) (fun _ _ _ _ _ i _ => M - (intOf i).toNat)
  case atStart => exact ⟨0, w3.heap.size, M, Nat.zero_le _, rfl, rfl, rfl, HI.out.1, HI.out.2⟩
  case round =>
  obtain ⟨j, g, cap, hj, rfl, rfl, rfl, HR⟩ := hrel
  obtain ⟨hb, ho⟩ := HR.out
  by_cases hlt : j < M
  · have hc0 := rd_at0 (HRD.out.kept hb) hlt
    obtain ⟨x, hx⟩ : ∃ x, x = Ls.getD j ⟨#[]⟩ := ⟨_, rfl⟩
    rw [← hx] at hc0
    have HX := Lib.hid hx
    have q4 : (0 : Int) ≤ (j : Int) := by omega
    have q5 : (j : Int) < (M : Int) := by omega
    have hc := cell_fresh wr #[.string x] 9 0 (.string x) rfl
    have hb3 := below_al hb (Nat.le_refl _) (.cells #[.string x] 9)
    have hB2 : w3.heap.size ≤ (wr.alloc (.cells #[.string x] 9)).heap.size := hb3.size
    have hown2 := own_alloc ho (.cells #[.string x] 9)
    have HW := Lib.hid hb3
    clear hx HR HI hb hb3 ho
    go_wp2_with (first
      | (at_builtin; refine wpl_app1 rfl _ _ 22 9 rfl Tryz.underlying22 tixStr rfl (by omega) w3.heap.size _ (.slice (some ⟨g, 0, none⟩) j cap) j _ rfl hown2 wr.heap.size (.string x) rfl hc rfl (by omega) hB2 ?_; intro g2 cap2 w2 ho2 hb2))
    have HZ := Lib.hid (And.intro ho2 hb2)
    clear ho2 hb2 hown2 hc hB2
    go_roundw
    case rel =>
      refine ⟨j + 1, g2, cap2, by omega, by go_num, rfl, rfl, HW.out.trans HZ.out.2, ?_⟩
      rw [List.range_succ, List.map_append, List.map_singleton, ← HX.out]
      exact HZ.out.1
    case measure => simp [intOf]; omega
  obtain rfl : j = M := by omega
  have hjj : (j : Int) ≤ (j : Int) := Int.le_refl _
  have HF := Lib.hid (And.intro hb ho)
  clear hb ho HR HI hlt hj
  go_wp2
  refine bodyPost_ret (v := .tuple #[.slice (some ⟨g, 0, none⟩) j cap, .bool false, .bool true]) (by simp [results, Tryz.results29, go_sem]) rfl ?_
  obtain ⟨h1, h2, h4⟩ := H3.out
  refine ⟨HB3.out.trans (Below.mono HF.out.1 HB3.out.size), .inr ⟨ss, ⟨g, 0, none⟩, cap, h1, by rw [h2], ?_⟩⟩
  rw [← h2, ← h4]
  exact (own_rd HF.out.2 rfl _ fun i hi => by simp [hi]).2
end
end Go.Proofs.YtdlmdmpkjhnbmaaGreatDoor
