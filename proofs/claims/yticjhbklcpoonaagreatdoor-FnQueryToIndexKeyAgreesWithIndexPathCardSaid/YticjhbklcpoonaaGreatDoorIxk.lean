/- Keys that are queries: toIndexKey of a Query and of an Index; toIndices of an Index, whatever its key. -/
import Derived.Test.YticjhbklcpoonaaGreatDoorTix
import Derived.Test.YticjhbklcpoonaaGreatDoorMaps
namespace Go.Proofs.YticjhbklcpoonaaGreatDoor
open Go.RowKit Go.Gq
set_option maxRecDepth 100000
/-- What a string, or none, is as a key. -/
def kv : Option ByteArray → Value
  | some s => sv s
  | none => .nilIface
/-- A query that is a string (or an identity), and its key. -/
def KeyIs (B : Nat) (w : World) (q : Nat) (o : Option ByteArray) : Prop :=
  q < B ∧ ∃ t, t < B ∧ w.cell? ⟨q, 3, none⟩ = some (bq t) ∧ ((w.cell? ⟨t, 0, none⟩ = some (.int .i64 1) ∧ o = none) ∨
    ∃ (st : Nat) (s : ByteArray) (qa : Option Addr) (ql qc : Nat), st < B ∧ w.cell? ⟨t, 0, none⟩ = some (.int .i64 13) ∧ w.cell? ⟨t, 8, none⟩ = some (bq st) ∧ w.cell? ⟨st, 0, none⟩ = some (.string s) ∧ w.cell? ⟨st, 1, none⟩ = some (.slice qa ql qc) ∧ o = if qa.isNone = true then some s else none)
theorem KeyIs.below {B : Nat} {w w' : World} {q : Nat} {o : Option ByteArray} (h : KeyIs B w q o) (k : Below B w w') : KeyIs B w' q o := by
  obtain ⟨hq, t, ht, h1, ⟨h2, h3⟩ | ⟨st, s, qa, ql, qc, hst, h2, h3, h4, h5, h6⟩⟩ := h
  · exact ⟨hq, t, ht, below_cell k hq h1, .inl ⟨below_cell k ht h2, h3⟩⟩
  · exact ⟨hq, t, ht, below_cell k hq h1, .inr ⟨st, s, qa, ql, qc, hst, below_cell k ht h2, below_cell k ht h3, below_cell k hst h4, below_cell k hst h5, h6⟩⟩
section
attribute [local go_sem] eql_queries'
theorem termKey_id (t : Nat) (w : World) (c0 : w.cell? ⟨t, 0, none⟩ = some (.int .i64 1)) :
    Calls Tryz.prog 60 #[bq t] w fun e w' => e = .returned .nilIface ∧ w = w' := by
  go_enter Tryz.func60, Tryz.ntmps60
  go_wp2
  go_ret
  exact ⟨rfl, rfl⟩
theorem termKey_str (t q : Nat) (s : ByteArray) (qa : Option Addr) (ql qc : Nat) (w : World) (c0 : w.cell? ⟨t, 0, none⟩ = some (.int .i64 13)) (c1 : w.cell? ⟨t, 8, none⟩ = some (bq q)) (s0 : w.cell? ⟨q, 0, none⟩ = some (.string s)) (s1 : w.cell? ⟨q, 1, none⟩ = some (.slice qa ql qc)) :
    Calls Tryz.prog 60 #[bq t] w fun e w' => e = .returned (kv (if qa.isNone = true then some s else none)) ∧ w = w' := by
  cases qa with
  | none =>
    go_enter Tryz.func60, Tryz.ntmps60
    go_wp2
    go_ret
    exact ⟨by simp [kv], rfl⟩
  | some a =>
    go_enter Tryz.func60, Tryz.ntmps60
    go_wp2
    go_ret
    exact ⟨by simp [kv], rfl⟩
theorem query_of_term (q t : Nat) (v : Value) (w : World) (c : w.cell? ⟨q, 3, none⟩ = some (bq t)) (h : Calls Tryz.prog 60 #[bq t] w fun e w' => e = .returned v ∧ w = w') :
    Calls Tryz.prog 45 #[bq q] w fun e w' => e = .returned v ∧ w = w' := by
  go_enter Tryz.func45, Tryz.ntmps45
  go_wp2_with fail
  refine h.mono ?_
  rintro e w' ⟨rfl, rfl⟩
  clear h
  go_wp2
  go_ret
  exact ⟨rfl, rfl⟩
theorem queryKey {B q : Nat} {o : Option ByteArray} {w : World} (h : KeyIs B w q o) : Calls Tryz.prog 45 #[bq q] w fun e w' => e = .returned (kv o) ∧ w = w' := by
  obtain ⟨_, t, _, h1, ⟨h2, rfl⟩ | ⟨st, s, qa, ql, qc, hst, h2, h3, h4, h5, rfl⟩⟩ := h
  · exact query_of_term q t _ w h1 (termKey_id t w h2)
  · exact query_of_term q t _ w h1 (termKey_str t st s qa ql qc w h2 h3 h4 h5)
theorem idxKey_start (i q : Nat) (v : Value) (w : World) (c0 : w.cell? ⟨i, 0, none⟩ = some (.string ⟨#[]⟩)) (c1 : w.cell? ⟨i, 1, none⟩ = some (.pointer none)) (c4 : w.cell? ⟨i, 4, none⟩ = some (.bool false)) (c2 : w.cell? ⟨i, 2, none⟩ = some (bq q))
    (h : Calls Tryz.prog 45 #[bq q] w fun e w' => e = .returned v ∧ w = w') :
    Calls Tryz.prog 79 #[bq i] w fun e w' => e = .returned v ∧ w = w' := by
  go_enter Tryz.func79, Tryz.ntmps79
  go_wp2_with fail
  refine h.mono ?_
  rintro e w' ⟨rfl, rfl⟩
  clear h
  go_wp2
  go_ret
  exact ⟨rfl, rfl⟩
end
/-- The key of an index. -/
inductive Ky where
  | no
  | str (s : ByteArray)
  | slc (a b : Option ByteArray)
def startB : ByteArray := ⟨#[115, 116, 97, 114, 116]⟩
def endB : ByteArray := ⟨#[101, 110, 100]⟩
abbrev mv (m : Nat) : Value := .iface 113 (.map (some m))
/-- The key as a value: a slice's is a map of two entries, which lies at block B or behind it. -/
def Ky.is (B : Nat) (w : World) : Ky → Value → Prop
  | .no, v => v = .nilIface
  | .str s, v => v = sv s
  | .slc a b, v => ∃ m, B ≤ m ∧ v = mv m ∧ w.MapIs strKey m [(startB, kv a), (endB, kv b)]
def Ky.some : Ky → Bool
  | .no => false
  | _ => true
def oKy : Option ByteArray → Ky
  | some s => .str s
  | none => .no
/-- An index whose key is k, wherever nothing below B has turned. -/
def IdkIs (B : Nat) (w : World) (i : Nat) (k : Ky) : Prop :=
  ∀ w1, Below B w w1 → B ≤ w1.heap.size → Calls Tryz.prog 79 #[bq i] w1 fun e w' => ∃ v, e = .returned v ∧ Kept w1 w' ∧ k.is w1.heap.size w' v
theorem IdkIs.below {B : Nat} {w w' : World} {i : Nat} {k : Ky} (h : IdkIs B w i k) (hb : Below B w w') : IdkIs B w' i k := fun w1 k1 => h w1 (hb.trans k1)
theorem idk_name {B i : Nat} {nm : ByteArray} {w : World} (hi : i < B) (c0 : w.cell? ⟨i, 0, none⟩ = some (.string nm)) (h : nm.toList.isEmpty = false) : IdkIs B w i (.str nm) := by
  intro w1 hb _
  refine (idxKey_name i nm w1 (below_cell hb hi c0) h).mono ?_
  rintro e w' ⟨rfl, rfl⟩
  exact ⟨_, rfl, Below.refl _ _, rfl⟩
theorem idk_str {B i q : Nat} {s : ByteArray} {qa : Option Addr} {ql qc : Nat} {w : World} (hi : i < B) (hq : q < B) (c0 : w.cell? ⟨i, 0, none⟩ = some (.string ⟨#[]⟩)) (c1 : w.cell? ⟨i, 1, none⟩ = some (bq q)) (s0 : w.cell? ⟨q, 0, none⟩ = some (.string s)) (s1 : w.cell? ⟨q, 1, none⟩ = some (.slice qa ql qc)) :
    IdkIs B w i (if qa.isNone = true then .str s else .no) := by
  intro w1 hb _
  refine (idxKey_str i q s qa ql qc w1 (below_cell hb hi c0) (below_cell hb hi c1) (below_cell hb hq s0) (below_cell hb hq s1)).mono ?_
  rintro e w' ⟨rfl, rfl⟩
  refine ⟨_, rfl, Below.refl _ _, ?_⟩
  cases qa <;> simp [Ky.is]
theorem idk_start {B i q : Nat} {o : Option ByteArray} {w : World} (hi : i < B) (c0 : w.cell? ⟨i, 0, none⟩ = some (.string ⟨#[]⟩)) (c1 : w.cell? ⟨i, 1, none⟩ = some (.pointer none)) (c4 : w.cell? ⟨i, 4, none⟩ = some (.bool false)) (c2 : w.cell? ⟨i, 2, none⟩ = some (bq q)) (hq : KeyIs B w q o) :
    IdkIs B w i (oKy o) := by
  intro w1 hb _
  refine (idxKey_start i q (kv o) w1 (below_cell hb hi c0) (below_cell hb hi c1) (below_cell hb hi c4) (below_cell hb hi c2) (queryKey (hq.below hb))).mono ?_
  rintro e w' ⟨rfl, rfl⟩
  refine ⟨_, rfl, Below.refl _ _, ?_⟩
  cases o <;> simp [Ky.is, kv, oKy]
section
set_option maxHeartbeats 1000000
/-- A bound of a slice index: absent, or a query; is it good, and its text. -/
def BdIs (B : Nat) (w : World) (v : Value) (ok : Bool) (o : Option ByteArray) : Prop := (v = .pointer none ∧ ok = true ∧ o = none) ∨ ∃ q, v = bq q ∧ KeyIs B w q o ∧ ok = o.isSome
theorem BdIs.below {B : Nat} {w w' : World} {v : Value} {ok : Bool} {o : Option ByteArray} (h : BdIs B w v ok o) (k : Below B w w') : BdIs B w' v ok o := by
  rcases h with h | ⟨q, h1, h2, h3⟩
  · exact .inl h
  · exact .inr ⟨q, h1, h2.below k, h3⟩
theorem slice_map (w : World) (a b : Value) : ∃ w2 w3, (Instr.mapUpdate 113 (.map (some w.heap.size)) (.string ⟨#[115, 116, 97, 114, 116]⟩) a).run Tryz.prog (w.alloc (.map #[] 0)) = .ok () w2 ∧ (Instr.mapUpdate 113 (.map (some w.heap.size)) (.string ⟨#[101, 110, 100]⟩) b).run Tryz.prog w2 = .ok () w3 ∧
    w3.MapIs strKey w.heap.size [(startB, a), (endB, b)] ∧ Kept w w3 := by
  obtain ⟨w2, u2, m2, o2⟩ := run_mapUpdate_assoc strKey (P := Tryz.prog) Tryz.underlying113 Tryz.underlying9 _ (mapIs_new strKey w) startB a
  obtain ⟨w3, u3, m3, o3⟩ := run_mapUpdate_assoc strKey (P := Tryz.prog) Tryz.underlying113 Tryz.underlying9 _ m2 endB b
  refine ⟨w2, w3, u2, u3, ?_, Below.trans (Below.trans (kept_alloc w (.map #[] 0)) (o2.below (Nat.le_refl _))) (o3.below (Nat.le_refl _))⟩
  have e : aput endB b (aput startB a ([] : List (ByteArray × Value))) = [(startB, a), (endB, b)] := by
    have : startB ≠ endB := by decide
    simp [aput, this.symm]
  rw [← e]
  exact m3
theorem idk_slice {B i : Nat} {sp ep : Value} {k1 k2 : Bool} {o1 o2 : Option ByteArray} {w : World} (hi : i < B) (c0 : w.cell? ⟨i, 0, none⟩ = some (.string ⟨#[]⟩)) (c1 : w.cell? ⟨i, 1, none⟩ = some (.pointer none)) (c4 : w.cell? ⟨i, 4, none⟩ = some (.bool true)) (c2 : w.cell? ⟨i, 2, none⟩ = some sp) (c3 : w.cell? ⟨i, 3, none⟩ = some ep) (h1 : BdIs B w sp k1 o1) (h2 : BdIs B w ep k2 o2) :
    IdkIs B w i (if (k1 && k2) = true then .slc o1 o2 else .no) := by
  intro w1 hb _
  have d0 := below_cell hb hi c0
  have d1 := below_cell hb hi c1
  have d2 := below_cell hb hi c2
  have d3 := below_cell hb hi c3
  have d4 := below_cell hb hi c4
  have h1 := h1.below hb
  have h2 := h2.below hb
  obtain ⟨wa, wb, hu1, hu2, hm, hkm⟩ := slice_map w1 (kv o1) (kv o2)
  have HM := Lib.hid (And.intro hm hkm)
  have hmm : ∀ W : World, (Instr.makeMap 113 none).run Tryz.prog W = .ok (.map (some W.heap.size)) (W.alloc (.map #[] 0)) := fun W => by simp [Instr.makeMap]
  clear c0 c1 c2 c3 c4 hb hm hkm
  rcases h1 with ⟨rfl, rfl, rfl⟩ | ⟨q1, rfl, hk1, rfl⟩
  · rcases h2 with ⟨rfl, rfl, rfl⟩ | ⟨q2, rfl, hk2, rfl⟩
    · simp only [kv] at hu1 hu2
      go_enter Tryz.func79, Tryz.ntmps79
      go_wp2
      go_ret
      exact ⟨_, rfl, HM.out.2, _, Nat.le_refl _, rfl, HM.out.1⟩
    · have hq2 := queryKey hk2
      clear hk2
      cases o2
      all_goals simp only [kv] at hq2 hu1 hu2
      · go_enter Tryz.func79, Tryz.ntmps79
        go_wp2_with fail
        refine hq2.mono ?_
        rintro e w' ⟨rfl, rfl⟩
        clear hq2
        go_wp2
        go_ret
        exact ⟨_, rfl, Below.refl _ _, rfl⟩
      · go_enter Tryz.func79, Tryz.ntmps79
        go_wp2_with fail
        refine hq2.mono ?_
        rintro e w' ⟨rfl, rfl⟩
        clear hq2
        go_wp2
        go_ret
        exact ⟨_, rfl, HM.out.2, _, Nat.le_refl _, rfl, HM.out.1⟩
  · have hq1 := queryKey hk1
    clear hk1
    cases o1
    all_goals simp only [kv] at hq1 hu1 hu2
    · clear hu1 hu2
      rcases h2 with ⟨rfl, rfl, rfl⟩ | ⟨q2, rfl, hk2, rfl⟩
      · go_enter Tryz.func79, Tryz.ntmps79
        go_wp2_with fail
        refine hq1.mono ?_
        rintro e w' ⟨rfl, rfl⟩
        clear hq1
        go_wp2
        go_ret
        exact ⟨_, rfl, Below.refl _ _, rfl⟩
      · clear hk2
        go_enter Tryz.func79, Tryz.ntmps79
        go_wp2_with fail
        refine hq1.mono ?_
        rintro e w' ⟨rfl, rfl⟩
        clear hq1
        go_wp2
        go_ret
        exact ⟨_, rfl, Below.refl _ _, rfl⟩
    · rcases h2 with ⟨rfl, rfl, rfl⟩ | ⟨q2, rfl, hk2, rfl⟩
      · simp only at hu2
        go_enter Tryz.func79, Tryz.ntmps79
        go_wp2_with fail
        refine hq1.mono ?_
        rintro e w' ⟨rfl, rfl⟩
        clear hq1
        go_wp2
        go_ret
        exact ⟨_, rfl, HM.out.2, _, Nat.le_refl _, rfl, HM.out.1⟩
      · have hq2 := queryKey hk2
        clear hk2
        cases o2
        all_goals simp only [kv] at hq2 hu1 hu2
        · go_enter Tryz.func79, Tryz.ntmps79
          go_wp2_with fail
          refine hq1.mono ?_
          rintro e w' ⟨rfl, rfl⟩
          clear hq1
          go_wp2_with fail
          refine hq2.mono ?_
          rintro e w' ⟨rfl, rfl⟩
          clear hq2
          go_wp2
          go_ret
          exact ⟨_, rfl, Below.refl _ _, rfl⟩
        · go_enter Tryz.func79, Tryz.ntmps79
          go_wp2_with fail
          refine hq1.mono ?_
          rintro e w' ⟨rfl, rfl⟩
          clear hq1
          go_wp2_with fail
          refine hq2.mono ?_
          rintro e w' ⟨rfl, rfl⟩
          clear hq2
          go_wp2
          go_ret
          exact ⟨_, rfl, HM.out.2, _, Nat.le_refl _, rfl, HM.out.1⟩
end
/-- A row of the call's own lies below what is laid after it. -/
theorem own_block_ne {w : World} {B : Nat} {E : TypeId} {v : Value} {n : Nat} {xs : List Value} (h : w.ownsRow B E 1 v n xs) {m : Nat} (hm : w.heap.size ≤ m) : ∀ j, v.ownBlock = some j → j ≠ m := fun j hj => by
  have := (h.lt j hj).2
  omega
theorem own_keptK {w w' : World} {B : Nat} {E : TypeId} {v : Value} {n : Nat} {xs : List Value} (h : w.ownsRow B E 1 v n xs) (k : Kept w w') : w'.ownsRow B E 1 v n xs := h.kept (row := none) ⟨k.os, k.tape, k.output, k.size, fun i hi _ => k.block i hi⟩ (by cases v.ownBlock <;> simp)
/-- What comes of the key of an index. -/
def KyAns (B : Nat) (xs : List Value) (k : Ky) (w : World) (e : Ending) (w' : World) : Prop :=
  Below B w w' ∧ ((k = .no ∧ e = .returned (.slice none 0 0)) ∨ ∃ y g cap, k ≠ .no ∧ k.is w.heap.size w' y ∧ e = .returned (.slice (some ⟨g, 0, none⟩) (xs.length + 1) cap) ∧ w'.ownsRow B 20 1 (.slice (some ⟨g, 0, none⟩) (xs.length + 1) cap) (xs.length + 1) (xs ++ [y]))
theorem Ky.is_keep {B : Nat} {w w' : World} {k : Ky} {y : Value} (h : k.is B w y) (hb : ∀ m, B ≤ m → m < w.heap.size → w'.heap[m]? = w.heap[m]?) : k.is B w' y := by
  cases k with
  | no => exact h
  | str s => exact h
  | slc a b =>
    obtain ⟨m, h1, h2, h3⟩ := h
    exact ⟨m, h1, h2, mapIs_of_block strKey h3 (hb m h1 (mapIs_lt strKey h3))⟩
section
attribute [local go_sem] Lib.run_eql_slice_nil
set_option maxHeartbeats 1000000 in
theorem index_key (B i : Nat) (k : Ky) (v : Value) (xs : List Value) (w : World) (hI : IdkIs B w i k) (hown : w.ownsRow B 20 1 v xs.length xs) (hn : xs.length ≤ 4194304) (hB : B ≤ w.heap.size) :
    Calls Tryz.prog 66 #[bq i, v] w (KyAns B xs k w) := by
  have hk := hI w (Below.refl _ _) hB
  have Ho := Lib.hid hown
  clear hI hown
  go_enter Tryz.func66, Tryz.ntmps66
  go_wp2_with fail
  refine hk.mono ?_
  rintro e w1 ⟨y, rfl, hk1, hy⟩
  clear hk
  have hs1 := hk1.size
  by_cases hno : k = .no
  · subst hno
    simp only [Ky.is] at hy
    subst hy
    have HK := Lib.hid hk1
    clear hk1 Ho
    go_wp2
    go_ret
    exact ⟨HK.out.mono hB, .inl ⟨rfl, rfl⟩⟩
  · obtain ⟨ty, u, rfl⟩ : ∃ ty u, y = .iface ty u := by
      cases k with
      | no => exact absurd rfl hno
      | str s => exact ⟨_, _, hy⟩
      | slc a b => obtain ⟨m, _, h, _⟩ := hy; exact ⟨_, _, h⟩
    have ho1 : (w1.alloc (.cells #[.iface ty u] 20)).ownsRow B 20 1 v xs.length xs := own_alloc (own_keptK Ho.out hk1) _
    have hne := own_block_ne Ho.out (m := w.heap.size) (Nat.le_refl _)
    have hlt := Ho.out.lt
    have hc := cell_fresh w1 #[.iface ty u] 20 0 (.iface ty u) rfl
    have hB2 : B ≤ (w1.alloc (.cells #[.iface ty u] 20)).heap.size := by simp; omega
    have HK := Lib.hid hk1
    have HY : Hid (k.is w.heap.size w1 (.iface ty u)) := hy
    have HN : Hid _ := And.intro hne hlt
    have HO1 := Lib.hid ho1
    clear hk1 hy hne hlt ho1
    go_wp2_with (first
      | (at_builtin; refine wpl_app1g rfl _ _ 62 20 rfl Tryz.underlying62 tixAny rfl (by omega) B _ v xs.length xs rfl HO1.out w1.heap.size (.iface ty u) rfl hc rfl hn hB2 ?_; intro g cap w2 ho2 hb2 hg2))
    have hb3 := ((Below.mono HK.out hB).alloc (by omega) (.cells #[.iface ty u] 20)).trans hb2
    go_ret
    refine ⟨hb3, .inr ⟨_, g, cap, hno, Ky.is_keep HY.out fun m h1 h2 => ?_, rfl, ho2⟩⟩
    rw [hg2.block m (by simp; omega) (fun h => by have := HN.out.2 m h.symm; omega)]
    exact (kept_alloc w1 _).block m h2
theorem suffix_key (B b i : Nat) (k : Ky) (v : Value) (xs : List Value) (w : World) (c0 : w.cell? ⟨b, 0, none⟩ = some (bq i)) (hI : IdkIs B w i k) (hown : w.ownsRow B 20 1 v xs.length xs) (hn : xs.length ≤ 4194304) (hB : B ≤ w.heap.size) :
    Calls Tryz.prog 50 #[bq b, v] w (KyAns B xs k w) := by
  have hcall := index_key B i k v xs w hI hown hn hB
  clear hI hown
  go_enter Tryz.func50, Tryz.ntmps50
  go_wp2_with fail
  refine hcall.mono ?_
  rintro e w1 ⟨hb, h⟩
  clear hcall
  have HB := Lib.hid hb
  clear hb
  rcases h with ⟨h3, rfl⟩ | ⟨y, g, cap, h1, h2, rfl, h3⟩
  · go_wp2
    go_ret
    exact ⟨HB.out, .inl ⟨h3, rfl⟩⟩
  · have H3 := Lib.hid (And.intro h1 (And.intro h2 h3))
    clear h1 h2 h3
    go_wp2
    go_ret
    exact ⟨HB.out, .inr ⟨y, g, cap, H3.out.1, H3.out.2.1, rfl, H3.out.2.2⟩⟩
theorem suffix_none (b : Nat) (v : Value) (w : World) (c0 : w.cell? ⟨b, 0, none⟩ = some (.pointer none)) :
    Calls Tryz.prog 50 #[bq b, v] w fun e w' => e = .returned (.slice none 0 0) ∧ w = w' := by
  go_enter Tryz.func50, Tryz.ntmps50
  go_wp2
  go_ret
  exact ⟨rfl, rfl⟩
end
end Go.Proofs.YticjhbklcpoonaaGreatDoor
