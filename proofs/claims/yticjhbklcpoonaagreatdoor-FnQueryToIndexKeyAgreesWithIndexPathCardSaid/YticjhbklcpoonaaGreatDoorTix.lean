/- toIndices: the keys that a path of fields adds to a list of keys. -/
import Derived.Test.YticjhbklcpoonaaGreatDoorSlices
import Derived.Test.YticjhbklcpoonaaGreatDoorFacts
import Derived.Laws.AppendOwn
namespace Go.Proofs.YticjhbklcpoonaaGreatDoor
open Go.RowKit Go.Gq
set_option maxRecDepth 100000
abbrev bq (q : Nat) : Value := .pointer (some ⟨q, 0, none⟩)
abbrev sv (s : ByteArray) : Value := .iface 9 (.string s)
theorem tixAny : (Tryz.prog.info? 20).map (fun i => (i.zero, i.size, i.bytes)) = some (some .nilIface, 1, 16) := by kernel_rfl
theorem tixStr : (Tryz.prog.info? 9).map (fun i => (i.zero, i.size, i.bytes)) = some (some (.string ⟨#[]⟩), 1, 16) := by kernel_rfl
theorem tixSfx : (Tryz.prog.info? 60).map (fun i => (i.zero, i.size, i.bytes)) = some (some (.pointer none), 1, 8) := by kernel_rfl
theorem cell_fresh (w : World) (cs : Array Value) (t : TypeId) (k : Nat) (v : Value) (h : cs[k]? = some v) : (w.alloc (.cells cs t)).cell? ⟨w.heap.size, k, none⟩ = some v := by
  have hb : (w.alloc (.cells cs t)).heap[w.heap.size]? = some (.cells cs t) := heap_alloc_new w _
  simp only [World.cell?, hb]
  simpa using h
/-- An append of one cell to a row of the call's own: the walk's law. -/
theorem wpl_app1g {ops : Array Oper} {rest : List Oper} {o : Oper} {a : Act} {Q : Exit → Act → World → Prop} (hgd : o.guard = none) (s x : Operand) (T E : TypeId)
    (hop : o.op = .call { callee := .builtin .append, args := #[s, x], argTypes := #[T, T] }) {z : Value} {by' : Nat} (hu : Tryz.prog.underlying T = some (.slice E)) (hi : (Tryz.prog.info? E).map (fun i => (i.zero, i.size, i.bytes)) = some (some z, 1, by')) (hz1 : z.cells.size = 1) (h16 : by' ≤ 16)
    (B : Nat) (w : World) (v : Value) (n : Nat) (xs : List Value) (hs : a.eval s = v) (hown : w.ownsRow B E 1 v n xs) (q : Nat) (y : Value) (hx : a.eval x = .slice (some ⟨q, 0, none⟩) 1 1) (hc : w.cell? ⟨q, 0, none⟩ = some y) (h1 : y.oneCell' = true) (hn : n ≤ 4194304) (hB : B ≤ w.heap.size)
    (h : ∀ g cap w', w'.ownsRow B E 1 (.slice (some ⟨g, 0, none⟩) (n + 1) cap) (n + 1) (xs ++ [y]) → Below B w w' → w.grownBy w' v.ownBlock → wpList Tryz.prog ops Q rest (a.put o.dst (.slice (some ⟨g, 0, none⟩) (n + 1) cap)) w') : wpList Tryz.prog ops Q (o :: rest) a w := by
  obtain ⟨i, hi, hzz⟩ := Option.map_eq_some_iff.1 hi
  simp only [Prod.mk.injEq] at hzz
  obtain ⟨hz, hsz, hb⟩ := hzz
  refine wpList_append_own w hgd s x T hop B E i z 1 by' hu hi hz hsz hb hz1 (by omega) v n xs hs hown ⟨q, 0, none⟩ 1 1 [y] hx (by simp) (fun s u hu => by
    have : s = 0 := by
      rcases Nat.eq_zero_or_pos s with h | h
      · exact h
      · rw [List.getElem?_eq_none (by simp; omega)] at hu; cases hu
    subst this
    simp at hu
    subst hu
    simpa [Addr.add] using hc) (by simpa using h1) (by simp only [maxLen]; omega) (by have : (n + 1) * by' ≤ 4194305 * 16 := Nat.mul_le_mul (by omega) h16; omega) hB fun v' w' ho hg _ => ?_
  rcases ho.2 with ⟨_, h0⟩ | ⟨g, cap, cur, rfl, hbg, _⟩
  · omega
  · exact h g cap w' ho ((Below.refl B w).grown hg hB fun k hk => (hown.lt k hk).1) hg
theorem wpl_app1 {ops : Array Oper} {rest : List Oper} {o : Oper} {a : Act} {Q : Exit → Act → World → Prop} (hgd : o.guard = none) (s x : Operand) (T E : TypeId)
    (hop : o.op = .call { callee := .builtin .append, args := #[s, x], argTypes := #[T, T] }) {z : Value} {by' : Nat} (hu : Tryz.prog.underlying T = some (.slice E)) (hi : (Tryz.prog.info? E).map (fun i => (i.zero, i.size, i.bytes)) = some (some z, 1, by')) (hz1 : z.cells.size = 1) (h16 : by' ≤ 16)
    (B : Nat) (w : World) (v : Value) (n : Nat) (xs : List Value) (hs : a.eval s = v) (hown : w.ownsRow B E 1 v n xs) (q : Nat) (y : Value) (hx : a.eval x = .slice (some ⟨q, 0, none⟩) 1 1) (hc : w.cell? ⟨q, 0, none⟩ = some y) (h1 : y.oneCell' = true) (hn : n ≤ 4194304) (hB : B ≤ w.heap.size)
    (h : ∀ g cap w', w'.ownsRow B E 1 (.slice (some ⟨g, 0, none⟩) (n + 1) cap) (n + 1) (xs ++ [y]) → Below B w w' → wpList Tryz.prog ops Q rest (a.put o.dst (.slice (some ⟨g, 0, none⟩) (n + 1) cap)) w') : wpList Tryz.prog ops Q (o :: rest) a w :=
  wpl_app1g hgd s x T E hop hu hi hz1 h16 B w v n xs hs hown q y hx hc h1 hn hB fun g cap w' h2 h3 _ => h g cap w' h2 h3
theorem make_gen (T E : TypeId) {z : Value} {by' : Nat} (hu : Tryz.prog.underlying T = some (.slice E)) (hi : (Tryz.prog.info? E).map (fun i => (i.zero, i.size, i.bytes)) = some (some z, 1, by')) (hz1 : z.cells = #[z]) (h16 : by' ≤ 16) (l c : Nat) (hl : l ≤ c) (hc : c ≤ 67108864) (w : World) :
    (Instr.makeSlice T (.int .i64 (l : Int)) (.int .i64 (c : Int))).run Tryz.prog w = .ok (.slice (some ⟨w.heap.size, 0, none⟩) l c) (w.alloc (.cells (madeCells #[z] c) E)) := by
  obtain ⟨i, hi, hzz⟩ := Option.map_eq_some_iff.1 hi
  simp only [Prod.mk.injEq] at hzz
  obtain ⟨hz, hs, hb⟩ := hzz
  have hr := run_make (P := Tryz.prog) w T E i z hu hi hz .i64 .i64 l c (by omega) (by omega) (by rw [hb]; have : by' * c ≤ 16 * 67108864 := Nat.mul_le_mul h16 hc; have e := Nat.mul_comm by' c; omega) (by omega)
  simp only [Int.toNat_natCast, hs, Nat.mul_one, hz1] at hr
  exact hr
theorem made_size (z : Value) (c : Nat) : (madeCells #[z] c).size = c * 1 := by simp [madeCells]
/-- What a row of the call's own holds. -/
theorem own_rd {w : World} {B : Nat} {E : TypeId} {v : Value} {n : Nat} {xs : List Value} (h : w.ownsRow B E 1 v n xs) {a : Option Addr} {l c : Nat} (e : v = .slice a l c) (f : Nat → Value) (hf : ∀ i, i < n → xs[i]? = some (f i)) : l = n ∧ Rd w a n f := by
  subst e
  rcases h.2 with ⟨h1, h2⟩ | ⟨g, cap, cur, h1, _⟩
  · injection h1 with h1 h3 h4
    exact ⟨by omega, .inl h2⟩
  · injection h1 with h1 h3 h4
    subst h1 h3 h4
    refine ⟨rfl, .inr ⟨g, 0, rfl, fun i hi => ?_⟩⟩
    have := h.cells (g := g) rfl i (f i) (hf i hi)
    have e : (⟨g, 0, none⟩ : Addr).add i = ⟨g, 0 + i, none⟩ := by unfold Addr.add; split <;> simp_all
    rw [e] at this
    exact this
/-- An index by a name or a string: its key; none where the string is interpolated. -/
def IdxIs (B : Nat) (w : World) (i : Nat) (o : Option ByteArray) : Prop :=
  i < B ∧ ((∃ nm, nm.toList.isEmpty = false ∧ w.cell? ⟨i, 0, none⟩ = some (.string nm) ∧ o = some nm) ∨
    (w.cell? ⟨i, 0, none⟩ = some (.string ⟨#[]⟩) ∧ ∃ (q : Nat) (s : ByteArray) (qa : Option Addr) (ql qc : Nat), q < B ∧ w.cell? ⟨i, 1, none⟩ = some (bq q) ∧ w.cell? ⟨q, 0, none⟩ = some (.string s) ∧ w.cell? ⟨q, 1, none⟩ = some (.slice qa ql qc) ∧ o = if qa.isNone = true then some s else none))
theorem below_cell {B : Nat} {w w' : World} (h : Below B w w') {a : Addr} (ha : a.block < B) {v : Value} (hc : w.cell? a = some v) : w'.cell? a = some v := by rw [h.cell ha]; exact hc
theorem IdxIs.below {B : Nat} {w w' : World} {i : Nat} {o : Option ByteArray} (h : IdxIs B w i o) (k : Below B w w') : IdxIs B w' i o := by
  obtain ⟨hi, ⟨nm, h1, h2, h3⟩ | ⟨h0, q, s, qa, ql, qc, hq, h1, h2, h3, h4⟩⟩ := h
  · exact ⟨hi, .inl ⟨nm, h1, below_cell k hi h2, h3⟩⟩
  · exact ⟨hi, .inr ⟨below_cell k hi h0, q, s, qa, ql, qc, hq, below_cell k hi h1, below_cell k hq h2, below_cell k hq h3, h4⟩⟩
/-- A suffix: none too where it is no index. -/
def SufIs (B : Nat) (w : World) (b : Nat) (o : Option ByteArray) : Prop :=
  b < B ∧ ((w.cell? ⟨b, 0, none⟩ = some (.pointer none) ∧ o = none) ∨ ∃ i, w.cell? ⟨b, 0, none⟩ = some (bq i) ∧ IdxIs B w i o)
theorem SufIs.below {B : Nat} {w w' : World} {b : Nat} {o : Option ByteArray} (h : SufIs B w b o) (k : Below B w w') : SufIs B w' b o := by
  obtain ⟨hb, ⟨h1, h2⟩ | ⟨i, h1, h2⟩⟩ := h
  · exact ⟨hb, .inl ⟨below_cell k hb h1, h2⟩⟩
  · exact ⟨hb, .inr ⟨i, below_cell k hb h1, h2.below k⟩⟩
theorem eql_queries' (a : Option Addr) (l c : Nat) (w : World) : (binOp .eql 103 (.slice a l c) (.slice none 0 0)).run Tryz.prog w = .ok (.bool a.isNone) w := eql_slice_nil w _ _ a l c Tryz.underlying103
section
attribute [local go_sem] eql_queries'
theorem idxKey_name (i : Nat) (nm : ByteArray) (w : World) (c0 : w.cell? ⟨i, 0, none⟩ = some (.string nm)) (h : nm.toList.isEmpty = false) :
    Calls Tryz.prog 79 #[bq i] w fun e w' => e = .returned (sv nm) ∧ w = w' := by
  go_enter Tryz.func79, Tryz.ntmps79
  go_wp2
  go_ret
  exact ⟨rfl, rfl⟩
theorem idxKey_str (i q : Nat) (s : ByteArray) (qa : Option Addr) (ql qc : Nat) (w : World) (c0 : w.cell? ⟨i, 0, none⟩ = some (.string ⟨#[]⟩)) (c1 : w.cell? ⟨i, 1, none⟩ = some (bq q)) (s0 : w.cell? ⟨q, 0, none⟩ = some (.string s)) (s1 : w.cell? ⟨q, 1, none⟩ = some (.slice qa ql qc)) :
    Calls Tryz.prog 79 #[bq i] w fun e w' => e = .returned (if qa.isNone = true then sv s else .nilIface) ∧ w = w' := by
  cases qa with
  | none =>
    go_enter Tryz.func79, Tryz.ntmps79
    go_wp2
    go_ret
    exact ⟨by simp, rfl⟩
  | some a =>
    go_enter Tryz.func79, Tryz.ntmps79
    go_wp2
    go_ret
    exact ⟨by simp, rfl⟩
end
/-- What comes of the key of an index: the list and the key, or none. -/
def IxAns (B : Nat) (xs : List Value) (o : Option ByteArray) (w : World) (e : Ending) (w' : World) : Prop :=
  Below B w w' ∧ ((o = none ∧ e = .returned (.slice none 0 0)) ∨ ∃ s g cap, o = some s ∧ e = .returned (.slice (some ⟨g, 0, none⟩) (xs.length + 1) cap) ∧ w'.ownsRow B 20 1 (.slice (some ⟨g, 0, none⟩) (xs.length + 1) cap) (xs.length + 1) (xs ++ [sv s]))
theorem own_len {w : World} {B : Nat} {E : TypeId} {v : Value} {n : Nat} {xs : List Value} (h : w.ownsRow B E 1 v n xs) : n = xs.length := by have := h.1; omega
theorem own_alloc {w : World} {B : Nat} {E : TypeId} {v : Value} {n : Nat} {xs : List Value} (h : w.ownsRow B E 1 v n xs) (o : Obj) : (w.alloc o).ownsRow B E 1 v n xs := h.alloc o
section
set_option maxHeartbeats 1000000
theorem index_toIndices (B i : Nat) (o : Option ByteArray) (v : Value) (xs : List Value) (w : World) (hI : IdxIs B w i o) (hown : w.ownsRow B 20 1 v xs.length xs) (hn : xs.length ≤ 4194304) (hB : B ≤ w.heap.size) :
    Calls Tryz.prog 66 #[bq i, v] w (IxAns B xs o w) := by
  have yes : ∀ s, o = some s → Calls Tryz.prog 79 #[bq i] w (fun e w' => e = .returned (sv s) ∧ w = w') → Calls Tryz.prog 66 #[bq i, v] w (IxAns B xs o w) := by
    intro s ho hk
    have hc := cell_fresh w #[sv s] 20 0 (sv s) rfl
    have hB2 : B ≤ (w.alloc (.cells #[sv s] 20)).heap.size := by simp; omega
    clear hI
    go_enter Tryz.func66, Tryz.ntmps66
    go_wp2_with fail
    refine hk.mono ?_
    rintro e w' ⟨rfl, rfl⟩
    clear hk
    go_wp2_with (first
      | (at_builtin; refine wpl_app1 rfl _ _ 62 20 rfl Tryz.underlying62 tixAny rfl (by omega) B _ v xs.length xs rfl (own_alloc hown _) w.heap.size (sv s) rfl hc rfl hn hB2 ?_; intro g cap w2 ho2 hb2))
    have hb3 := ((Below.refl B w).alloc hB (.cells #[sv s] 20)).trans hb2
    go_ret
    exact ⟨hb3, .inr ⟨s, g, cap, ho, rfl, ho2⟩⟩
  have no : o = none → Calls Tryz.prog 79 #[bq i] w (fun e w' => e = .returned .nilIface ∧ w = w') → Calls Tryz.prog 66 #[bq i, v] w (IxAns B xs o w) := by
    intro ho hk
    clear hown hI yes
    go_enter Tryz.func66, Tryz.ntmps66
    go_wp2_with fail
    refine hk.mono ?_
    rintro e w' ⟨rfl, rfl⟩
    clear hk
    go_wp2
    go_ret
    exact ⟨Below.refl _ _, .inl ⟨ho, rfl⟩⟩
  obtain ⟨_, ⟨nm, h1, h2, h3⟩ | ⟨h0, q, s, qa, ql, qc, _, h1, h2, h3, h4⟩⟩ := hI
  · exact yes nm h3 (idxKey_name i nm w h2 h1)
  · have hk := idxKey_str i q s qa ql qc w h0 h1 h2 h3
    cases qa with
    | none => exact yes s h4 hk
    | some a => exact no h4 hk
theorem suffix_toIndices (B b : Nat) (o : Option ByteArray) (v : Value) (xs : List Value) (w : World) (hI : SufIs B w b o) (hown : w.ownsRow B 20 1 v xs.length xs) (hn : xs.length ≤ 4194304) (hB : B ≤ w.heap.size) :
    Calls Tryz.prog 50 #[bq b, v] w (IxAns B xs o w) := by
  have Ho := Lib.hid hown
  clear hown
  obtain ⟨_, ⟨h1, h2⟩ | ⟨i, h1, h2⟩⟩ := hI
  · have H2 := Lib.hid h2
    clear h2
    go_enter Tryz.func50, Tryz.ntmps50
    go_wp2
    go_ret
    exact ⟨Below.refl _ _, .inl ⟨H2.out, rfl⟩⟩
  · have H2 := Lib.hid h2
    clear h2
    go_enter Tryz.func50, Tryz.ntmps50
    go_wp2_with fail
    refine (index_toIndices B i o v xs w H2.out Ho.out hn hB).mono ?_
    rintro e w1 ⟨hb, h⟩
    have HB := Lib.hid hb
    clear hb
    rcases h with ⟨h3, rfl⟩ | ⟨s, g, cap, h3, rfl, h5⟩
    · have H3 := Lib.hid h3
      clear h3
      go_wp2
      go_ret
      exact ⟨HB.out, .inl ⟨H3.out, rfl⟩⟩
    · have H5 := Lib.hid (And.intro h3 h5)
      clear h3 h5
      go_wp2
      go_ret
      exact ⟨HB.out, .inr ⟨s, g, cap, H5.out.1, rfl, H5.out.2⟩⟩
end
end Go.Proofs.YticjhbklcpoonaaGreatDoor
