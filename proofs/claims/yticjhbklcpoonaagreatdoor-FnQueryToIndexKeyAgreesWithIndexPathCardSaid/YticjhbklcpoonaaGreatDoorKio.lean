/- toIndices at a path .[q], whatever the key that q answers with. -/
import Derived.Test.YticjhbklcpoonaaGreatDoorKsr
import Derived.Test.YticjhbklcpoonaaGreatDoorIxk
import Derived.Test.YticjhbklcpoonaaGreatDoorClo
namespace Go.Proofs.YticjhbklcpoonaaGreatDoor
open Go.RowKit Go.Gq
set_option maxRecDepth 100000
theorem idx_kout (i q : Nat) (K : KOut) (w : World) (c0 : w.cell? ⟨i, 0, none⟩ = some (.string ⟨#[]⟩)) (c1 : w.cell? ⟨i, 1, none⟩ = some (.pointer none)) (c4 : w.cell? ⟨i, 4, none⟩ = some (.bool false)) (c2 : w.cell? ⟨i, 2, none⟩ = some (bq q))
    (h : Calls Tryz.prog 45 #[bq q] w (KeyAns K w)) :
    Calls Tryz.prog 79 #[bq i] w (KeyAns K w) := by
  have H := Lib.hid h
  clear h
  go_enter Tryz.func79, Tryz.ntmps79
  go_wp2_with fail
  refine H.out.mono ?_
  rintro e w1 ⟨v, rfl, hv, hk⟩
  have K1 := Lib.hid (And.intro hv hk)
  clear hv hk
  go_wp2
  go_ret
  exact ⟨v, rfl, K1.out.1, K1.out.2⟩
theorem KeyOut.iface {K : KOut} {y : Value} (h : KeyOut K y) (hn : K ≠ .none) : ∃ ty u, y = .iface ty u := by
  cases K with
  | none => exact absurd rfl hn
  | str t => exact ⟨_, _, h⟩
  | int z => exact ⟨_, _, h⟩
  | other => rcases h with ⟨b, h⟩ | ⟨a, h⟩ <;> exact ⟨_, _, h⟩
/-- What comes of the path: the list and the key, or none. -/
def KxAns (B : Nat) (xs : List Value) (K : KOut) (w : World) (e : Ending) (w' : World) : Prop :=
  Below B w w' ∧ ((K = .none ∧ e = .returned (.slice none 0 0)) ∨ ∃ y g cap, K ≠ .none ∧ KeyOut K y ∧ e = .returned (.slice (some ⟨g, 0, none⟩) (xs.length + 1) cap) ∧ w'.ownsRow B 20 1 (.slice (some ⟨g, 0, none⟩) (xs.length + 1) cap) (xs.length + 1) (xs ++ [y]))
section
attribute [local go_sem] Lib.run_eql_slice_nil
set_option maxHeartbeats 1000000 in
theorem index_kout (B i : Nat) (K : KOut) (v : Value) (xs : List Value) (w : World) (hI : Calls Tryz.prog 79 #[bq i] w (KeyAns K w)) (hown : w.ownsRow B 20 1 v xs.length xs) (hn : xs.length ≤ 4194304) (hB : B ≤ w.heap.size) :
    Calls Tryz.prog 66 #[bq i, v] w (KxAns B xs K w) := by
  have hk := Lib.hid hI
  have Ho := Lib.hid hown
  clear hI hown
  go_enter Tryz.func66, Tryz.ntmps66
  go_wp2_with fail
  refine hk.out.mono ?_
  rintro e w1 ⟨y, rfl, hy, hk1⟩
  clear hk
  have hs1 := hk1.size
  by_cases hno : K = .none
  · subst hno
    have hy : y = .nilIface := hy
    subst hy
    have HK := Lib.hid hk1
    clear hk1 Ho
    go_wp2
    go_ret
    exact ⟨HK.out.mono hB, .inl ⟨rfl, rfl⟩⟩
  · obtain ⟨ty, u, rfl⟩ := hy.iface hno
    have ho1 : (w1.alloc (.cells #[.iface ty u] 20)).ownsRow B 20 1 v xs.length xs := own_alloc (own_keptK Ho.out hk1) _
    have hc := cell_fresh w1 #[.iface ty u] 20 0 (.iface ty u) rfl
    have hB2 : B ≤ (w1.alloc (.cells #[.iface ty u] 20)).heap.size := by simp; omega
    have HK := Lib.hid hk1
    have HY : Hid (KeyOut K (.iface ty u)) := hy
    have HO1 := Lib.hid ho1
    have HNo := Lib.hid hno
    clear hk1 hy ho1 hno
    go_wp2_with (first
      | (at_builtin; refine wpl_app1g rfl _ _ 62 20 rfl Tryz.underlying62 tixAny rfl (by omega) B _ v xs.length xs rfl HO1.out w1.heap.size (.iface ty u) rfl hc rfl hn hB2 ?_; intro g cap w2 ho2 hb2 hg2))
    have hb3 := ((Below.mono HK.out hB).alloc (by omega) (.cells #[.iface ty u] 20)).trans hb2
    go_ret
    exact ⟨hb3, .inr ⟨_, g, cap, HNo.out, HY.out, rfl, ho2⟩⟩
set_option maxHeartbeats 1000000 in
theorem term_kout (B t i : Nat) (K : KOut) (v : Value) (xs : List Value) (w : World) (ht : t < B) (c0 : w.cell? ⟨t, 0, none⟩ = some (.int .i64 6)) (c1 : w.cell? ⟨t, 1, none⟩ = some (bq i)) (c16 : w.cell? ⟨t, 16, none⟩ = some (.slice none 0 0)) (hI : Calls Tryz.prog 79 #[bq i] w (KeyAns K w)) (hown : w.ownsRow B 20 1 v xs.length xs) (hn : xs.length ≤ 4194304) (hB : B ≤ w.heap.size) :
    Calls Tryz.prog 70 #[bq t, v] w (KxAns B xs K w) := by
  have H := Lib.hid (index_kout B i K v xs w hI hown hn hB)
  clear hI hown
  go_enter Tryz.func70, Tryz.ntmps70
  go_wp2_with fail
  refine H.out.mono ?_
  rintro e w2 ⟨hb2, hr⟩
  clear H
  have hc16 := below_cell hb2 ht c16
  have HB2 := Lib.hid hb2
  clear hb2
  rcases hr with ⟨h3, rfl⟩ | ⟨y, g, cap, h1, h2, rfl, h5⟩
  · have H3 := Lib.hid h3
    clear h3
    go_wp2
    go_ret
    exact ⟨HB2.out, .inl ⟨H3.out, rfl⟩⟩
  · have H2 := Lib.hid (And.intro h1 (And.intro h2 h5))
    clear h1 h2 h5 c0 c1 c16
    go_wp2_with fail
    go_loopw [1, 6, 36] (fun x _ i wr => i = .int .i64 0 ∧ x = .slice (some ⟨g, 0, none⟩) (xs.length + 1) cap ∧ wr = w2) (fun _ _ _ _ => 0)
    case atStart => exact ⟨rfl, rfl, rfl⟩
    case round =>
      obtain ⟨rfl, rfl, rfl⟩ := hrel
      go_wp2
      go_ret
      exact ⟨HB2.out, .inr ⟨y, g, cap, H2.out.1, H2.out.2.1, rfl, H2.out.2.2⟩⟩
theorem query_kout (B q t : Nat) (K : KOut) (v : Value) (xs : List Value) (w : World) (c3 : w.cell? ⟨q, 3, none⟩ = some (bq t)) (h : Calls Tryz.prog 70 #[bq t, v] w (KxAns B xs K w)) :
    Calls Tryz.prog 55 #[bq q, v] w (KxAns B xs K w) := by
  have HC := Lib.hid h
  clear h
  go_enter Tryz.func55, Tryz.ntmps55
  go_wp2_with fail
  refine HC.out.mono ?_
  rintro e w2 ⟨hb2, hr⟩
  rcases hr with ⟨h3, rfl⟩ | ⟨y, g, cap, h1, h2, rfl, h5⟩
  · have H3 := Lib.hid (And.intro hb2 h3)
    clear hb2 h3
    go_wp2
    go_ret
    exact ⟨H3.out.1, .inl ⟨H3.out.2, rfl⟩⟩
  · have H3 := Lib.hid (And.intro hb2 (And.intro h1 (And.intro h2 h5)))
    clear hb2 h1 h2 h5
    go_wp2
    go_ret
    exact ⟨H3.out.1, .inr ⟨y, g, cap, H3.out.2.1, H3.out.2.2.1, rfl, H3.out.2.2.2⟩⟩
end
/-- A query that is the path .[q] at a q whose key is K. -/
def PathAt (w : World) (p : Nat) (K : KOut) : Prop := ∀ w3 v xs, Kept w w3 → Gl w3 → w3.ownsRow w.heap.size 20 1 v xs.length xs → xs.length ≤ 4194304 → Calls Tryz.prog 55 #[bq p, v] w3 (KxAns w.heap.size xs K w3)
theorem path_at {w : World} {p t i q : Nat} {K : KOut} (ht : t < w.heap.size) (p3 : w.cell? ⟨p, 3, none⟩ = some (bq t)) (t0 : w.cell? ⟨t, 0, none⟩ = some (.int .i64 6)) (t1 : w.cell? ⟨t, 1, none⟩ = some (bq i)) (t16 : w.cell? ⟨t, 16, none⟩ = some (.slice none 0 0))
    (i0 : w.cell? ⟨i, 0, none⟩ = some (.string ⟨#[]⟩)) (i1 : w.cell? ⟨i, 1, none⟩ = some (.pointer none)) (i4 : w.cell? ⟨i, 4, none⟩ = some (.bool false)) (i2 : w.cell? ⟨i, 2, none⟩ = some (bq q)) (hA : AnsAt w q K) : PathAt w p K := by
  intro w3 v xs k G ho hn
  exact query_kout _ p t K v xs w3 (kept_cell k p3) (term_kout _ t i K v xs w3 ht (kept_cell k t0) (kept_cell k t1) (kept_cell k t16) (idx_kout i q K w3 (kept_cell k i0) (kept_cell k i1) (kept_cell k i4) (kept_cell k i2) (hA w3 k G)) ho hn k.size)
end Go.Proofs.YticjhbklcpoonaaGreatDoor
