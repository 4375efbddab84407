/- The walk of FnTermToIndexKeyNegation. -/
import Derived.Test.YtdlmdmpkjhnbmaaGreatDoorKnv
namespace Go.Proofs.YtdlmdmpkjhnbmaaGreatDoor
open Go.RowKit Go.Gq
set_option maxRecDepth 100000
theorem zzBytes_FnTermToIndexKeyNegation_any (s : ByteArray) (w : World) (m0 : s.size ≤ 9223372036854775807) :
    Calls Tryz.prog 20 #[.string s] w (SomeBool w) := by
  by_cases g0 : s.size ≤ 1048576
  rotate_left
  · go_enter Tryz.func20, Tryz.ntmps20
    go_wp2
    go_ret
    exact ⟨false, rfl, rfl⟩
  go_enter Tryz.func20, Tryz.ntmps20
  go_wp2
  go_ret
  exact ⟨true, rfl, rfl⟩
set_option maxHeartbeats 2000000 in
theorem FnTermToIndexKeyNegation_walk (s : ByteArray) (w : World) (m0 : s.size ≤ 9223372036854775807) :
    Calls Tryz.prog 6 #[.string s] w (TrueKept w) := by
  go_enter Tryz.func6, Tryz.ntmps6
  go_wp2_with fail
  refine (zzBytes_FnTermToIndexKeyNegation_any s w m0).mono ?_
  rintro e w1 ⟨b, rfl, rfl⟩
  cases b with
  | false =>
    go_wp2
    go_ret
    exact ⟨rfl, Below.refl _ _⟩
  | true =>
  by_cases g0 : 1048576 < s.size
  · go_wp2
    go_ret
    exact ⟨rfl, Below.refl _ _⟩
  go_wp2_with fail
  refine (zzDecimal_any s w m0).mono ?_
  rintro e w1 ⟨v, b, rfl, hv, rfl⟩
  cases b with
  | false =>
    go_wp2
    go_ret
    exact ⟨rfl, Below.refl _ _⟩
  | true =>
  have HV := Lib.hid (hv rfl)
  have hb := zzDec_bd (hv rfl)
  clear hv
  go_wp2_with fail
  obtain ⟨W1, hW⟩ : ∃ W : World, W = w.alloc (.cells (termC 10 np s np np np ns) 58) := ⟨_, rfl⟩
  have a0 : W1.cell? ⟨w.heap.size, 0, none⟩ = some (.int .i64 10) := by rw [hW]; exact cell_new _ _ _ 0 _ rfl
  have a5 : W1.cell? ⟨w.heap.size, 5, none⟩ = some (.string s) := by rw [hW]; exact cell_new _ _ _ 5 _ rfl
  have hk : Kept w W1 := by rw [hW]; exact kept_alloc _ _
  have hsz : W1.heap.size = w.heap.size + 1 := by rw [hW]; simp
  rw [← hW]
  clear hW
  refine (ZK_of _ _ 1 v ⟨#[]⟩ W1 (key_num w.heap.size s v W1 (by omega) HV.out a0 a5) (kind_int v)).mono ?_
  rintro e w1 ⟨rfl, hk1⟩
  have A0 := Lib.hid (kept_cell hk1 a0)
  have A5 := Lib.hid (kept_cell hk1 a5)
  have K1 := Lib.hid (hk.trans hk1)
  obtain ⟨t, ht⟩ : ∃ t, t = w.heap.size := ⟨_, rfl⟩
  rw [← ht] at A0 A5 ⊢
  clear a0 a5 hk hk1 ht hsz
  go_wp2_with fail
  obtain ⟨W2, hW⟩ : ∃ W : World, W = (w1.alloc (.cells #[.int .i64 4, bs t] 63)).alloc (.cells (termC 11 np ⟨#[]⟩ (bs (w1.heap.size)) np np ns) 58) := ⟨_, rfl⟩
  obtain ⟨c0, c6, u0, u1, hk⟩ := un_new w1 4 (t) ⟨#[]⟩ (w1.heap.size) rfl W2 hW
  rw [← hW]
  clear hW
  refine (ZK_of _ _ 1 (-v) ⟨#[]⟩ W2 (key_un (w1.heap.size + 1) w1.heap.size t 4 s v (-v) rfl W2 (by omega) HV.out c0 c6 u0 u1 (kept_cell hk A0.out) (kept_cell hk A5.out)) (kind_int (-v))).mono ?_
  rintro e w2 ⟨rfl, hk2⟩
  have B0 := Lib.hid (kept_cell hk2 c0)
  have A0' := Lib.hid (kept_cell hk2 (kept_cell hk A0.out))
  have A5' := Lib.hid (kept_cell hk2 (kept_cell hk A5.out))
  have K2 := Lib.hid (K1.out.trans (hk.trans hk2))
  obtain ⟨r, hr⟩ : ∃ r, r = w1.heap.size + 1 := ⟨_, rfl⟩
  rw [← hr] at B0 ⊢
  clear c0 c6 u0 u1 hk hk2 hr
  go_wp2_with fail
  obtain ⟨W3, hW⟩ : ∃ W : World, W = (w2.alloc (.cells #[.int .i64 3, bs t] 63)).alloc (.cells (termC 11 np ⟨#[]⟩ (bs (w2.heap.size)) np np ns) 58) := ⟨_, rfl⟩
  obtain ⟨c0, c6, u0, u1, hk⟩ := un_new w2 3 (t) ⟨#[]⟩ (w2.heap.size) rfl W3 hW
  rw [← hW]
  clear hW
  refine (ZK_of _ _ 1 v ⟨#[]⟩ W3 (key_un (w2.heap.size + 1) w2.heap.size t 3 s v v rfl W3 (by omega) HV.out c0 c6 u0 u1 (kept_cell hk A0'.out) (kept_cell hk A5'.out)) (kind_int v)).mono ?_
  rintro e w3 ⟨rfl, hk3⟩
  have B0' := Lib.hid (kept_cell hk3 (kept_cell hk B0.out))
  have K3 := Lib.hid (K2.out.trans (hk.trans hk3))
  clear c0 c6 u0 u1 hk hk3
  go_wp2_with fail
  obtain ⟨W4, hW⟩ : ∃ W : World, W = (w3.alloc (.cells #[.int .i64 4, bs r] 63)).alloc (.cells (termC 11 np ⟨#[]⟩ (bs (w3.heap.size)) np np ns) 58) := ⟨_, rfl⟩
  obtain ⟨c0, c6, u0, u1, hk⟩ := un_new w3 4 (r) ⟨#[]⟩ (w3.heap.size) rfl W4 hW
  rw [← hW]
  clear hW
  refine (ZK_of _ _ 0 0 ⟨#[]⟩ W4 ((key_un_other (w3.heap.size + 1) w3.heap.size r 4 11 W4 c0 c6 u0 u1 (kept_cell hk B0'.out) (by decide)).mono fun e w' ⟨h1, h2⟩ => ⟨h1, h2 ▸ Below.refl _ _⟩) kind_nil).mono ?_
  rintro e w4 ⟨rfl, hk4⟩
  have K4 := Lib.hid (K3.out.trans (hk.trans hk4))
  clear c0 c6 u0 u1 hk hk4
  go_wp2
  go_ret
  exact ⟨rfl, K4.out⟩
end Go.Proofs.YtdlmdmpkjhnbmaaGreatDoor
