/- The walk of FnTermToNumberOnlyLiterals. -/
import Derived.Test.YtdlmdmpkjhnbmaaGreatDoorKnv
namespace Go.Proofs.YtdlmdmpkjhnbmaaGreatDoor
open Go.RowKit Go.Gq
set_option maxRecDepth 100000
theorem zzBytes_FnTermToNumberOnlyLiterals_any (s : ByteArray) (op : Int) (w : World) (m0 : s.size ≤ 9223372036854775807) :
    Calls Tryz.prog 23 #[.string s, .int .i64 op] w (SomeBool w) := by
  by_cases g0 : s.size ≤ 1048576
  rotate_left
  · go_enter Tryz.func23, Tryz.ntmps23
    go_wp2
    go_ret
    exact ⟨false, rfl, rfl⟩
  go_enter Tryz.func23, Tryz.ntmps23
  go_wp2
  go_ret
  exact ⟨true, rfl, rfl⟩
set_option maxHeartbeats 2000000 in
theorem FnTermToNumberOnlyLiterals_walk (s : ByteArray) (op : Int) (w : World) (m0 : s.size ≤ 9223372036854775807) :
    Calls Tryz.prog 7 #[.string s, .int .i64 op] w (TrueKept w) := by
  go_enter Tryz.func7, Tryz.ntmps7
  go_wp2_with fail
  refine (zzBytes_FnTermToNumberOnlyLiterals_any s op w m0).mono ?_
  rintro e w1 ⟨b, rfl, rfl⟩
  cases b with
  | false =>
    go_wp2
    go_ret
    exact ⟨rfl, Below.refl _ _⟩
  | true =>
  by_cases g0 : 1048576 < s.size
  · go_wp2
    go_ret
    exact ⟨rfl, Below.refl _ _⟩
  go_wp2_with fail
  refine (zzDecimal_any s w m0).mono ?_
  rintro e w1 ⟨v, b, rfl, hv, rfl⟩
  cases b with
  | false =>
    go_wp2
    go_ret
    exact ⟨rfl, Below.refl _ _⟩
  | true =>
  have HV := Lib.hid (hv rfl)
  have hb := zzDec_bd (hv rfl)
  clear hv
  go_wp2_with fail
  obtain ⟨W1, hW⟩ : ∃ W : World, W = w.alloc (.cells (termC 10 np s np np np ns) 58) := ⟨_, rfl⟩
  have a0 : W1.cell? ⟨w.heap.size, 0, none⟩ = some (.int .i64 10) := by rw [hW]; exact cell_new _ _ _ 0 _ rfl
  have a5 : W1.cell? ⟨w.heap.size, 5, none⟩ = some (.string s) := by rw [hW]; exact cell_new _ _ _ 5 _ rfl
  have hk : Kept w W1 := by rw [hW]; exact kept_alloc _ _
  have hsz : W1.heap.size = w.heap.size + 1 := by rw [hW]; simp
  rw [← hW]
  clear hW
  have HA := Lib.hid (And.intro a0 (And.intro a5 hk))
  clear hsz
  have qv : (v != v) = false := by simp
  clear a0 a5 hk
  refine (ZN_of _ _ 1 v ⟨#[]⟩ W1 (termNumber_ok w.heap.size s v W1 (by omega) HV.out HA.out.1 HA.out.2.1) (kind_int v)).mono ?_
  rintro e w1 ⟨rfl, hk1⟩
  have A0 := Lib.hid (kept_cell hk1 HA.out.1)
  have A5 := Lib.hid (kept_cell hk1 HA.out.2.1)
  have K1 := Lib.hid (HA.out.2.2.trans hk1)
  clear hk1
  go_wp2_with fail
  refine (ZK_of _ _ 1 v ⟨#[]⟩ w1 (key_num w.heap.size s v w1 (by omega) HV.out A0.out A5.out) (kind_int v)).mono ?_
  rintro e w2 ⟨rfl, hk2⟩
  have K2 := Lib.hid (K1.out.trans hk2)
  clear hk2 A0 A5 HA
  go_wp2_with fail
  obtain ⟨W2, hW⟩ : ∃ W : World, W = w2.alloc (.cells (termC 10 np s np np np ns) 58) := ⟨_, rfl⟩
  have a0 : W2.cell? ⟨w2.heap.size, 0, none⟩ = some (.int .i64 10) := by rw [hW]; exact cell_new _ _ _ 0 _ rfl
  have a5 : W2.cell? ⟨w2.heap.size, 5, none⟩ = some (.string s) := by rw [hW]; exact cell_new _ _ _ 5 _ rfl
  have hk : Kept w2 W2 := by rw [hW]; exact kept_alloc _ _
  have hsz : W2.heap.size = w2.heap.size + 1 := by rw [hW]; simp
  rw [← hW]
  clear hW
  have H2 := Lib.hid (And.intro a0 (And.intro a5 hk))
  have HZ := Lib.hid hsz
  clear a0 a5 hk hsz
  obtain ⟨W3, hW⟩ : ∃ W : World, W = (W2.alloc (.cells #[.int .i64 op, bs w2.heap.size] 63)).alloc (.cells (termC 11 np ⟨#[]⟩ (bs (w2.heap.size + 1)) np np ns) 58) := ⟨_, rfl⟩
  obtain ⟨c0, c6, u0, u1, hk⟩ := un_new W2 op (w2.heap.size) ⟨#[]⟩ (w2.heap.size + 1) HZ.out W3 hW
  rw [← hW]
  clear hW
  have H3 := Lib.hid (And.intro c0 (And.intro c6 (And.intro u0 (And.intro u1 hk))))
  clear c0 c6 u0 u1 hk
  refine (ZN_of _ _ 0 0 ⟨#[]⟩ W3 ((termNumber_other (w2.heap.size + 1 + 1) 11 W3 H3.out.1 (by decide)).mono fun e w' ⟨h1, h2⟩ => ⟨h1, h2 ▸ Below.refl _ _⟩) kind_nil).mono ?_
  rintro e w3 ⟨rfl, hk3⟩
  have HK := Lib.hid hk3
  clear hk3
  go_wp2_with fail
  obtain ⟨y, hy⟩ : ∃ y, y = if op = 4 then -v else v := ⟨_, rfl⟩
  have HY := Lib.hid hy
  clear hy
  refine (ZK_of _ _ 1 y ⟨#[]⟩ w3 (key_un (w2.heap.size + 1 + 1) (w2.heap.size + 1) w2.heap.size op s v y HY.out w3 (by omega) HV.out (kept_cell HK.out H3.out.1) (kept_cell HK.out H3.out.2.1) (kept_cell HK.out H3.out.2.2.1) (kept_cell HK.out H3.out.2.2.2.1) (kept_cell HK.out (kept_cell H3.out.2.2.2.2 H2.out.1)) (kept_cell HK.out (kept_cell H3.out.2.2.2.2 H2.out.2.1))) (kind_int y)).mono ?_
  rintro e w4 ⟨rfl, hk4⟩
  have K4 := Lib.hid (K2.out.trans (H2.out.2.2.trans (H3.out.2.2.2.2.trans (HK.out.trans hk4))))
  clear hk4
  go_wp2_with fail
  obtain ⟨W5, hW⟩ : ∃ W : World, W = (w4.alloc (.cells #[.string s, ns] 67)).alloc (.cells (termC 13 np s np (bs w4.heap.size) np ns) 58) := ⟨_, rfl⟩
  obtain ⟨c0, c8, s0, s1, hk⟩ := str_new w4 s s ns w4.heap.size rfl W5 hW
  rw [← hW]
  have H5 := Lib.hid (And.intro c0 (And.intro c8 (And.intro s0 (And.intro s1 hk))))
  clear c0 c8 s0 s1 hk hW
  refine (ZN_of _ _ 0 0 ⟨#[]⟩ W5 ((termNumber_other (w4.heap.size + 1) 13 W5 H5.out.1 (by decide)).mono fun e w' ⟨h1, h2⟩ => ⟨h1, h2 ▸ Below.refl _ _⟩) kind_nil).mono ?_
  rintro e w5 ⟨rfl, hk5⟩
  have HK5 := Lib.hid hk5
  clear hk5
  go_wp2_with fail
  refine (ZK_of _ (.iface 9 (.string s)) 2 0 s w5 ((key_str (w4.heap.size + 1) w4.heap.size s none 0 0 w5 (kept_cell HK5.out H5.out.1) (kept_cell HK5.out H5.out.2.1) (kept_cell HK5.out H5.out.2.2.1) (kept_cell HK5.out H5.out.2.2.2.1)).mono fun e w' ⟨h1, h2⟩ => ⟨h1, h2 ▸ Below.refl _ _⟩) (kind_str s)).mono ?_
  rintro e w6 ⟨rfl, hk6⟩
  have K6 := Lib.hid (K4.out.trans (H5.out.2.2.2.2.trans (HK5.out.trans hk6)))
  clear hk6
  go_wp2
  go_ret
  exact ⟨rfl, K6.out⟩
end Go.Proofs.YtdlmdmpkjhnbmaaGreatDoor
