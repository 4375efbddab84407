/- The walk of FnTermToIndexKeyCaseTable. -/
import Derived.Test.YtdlmdmpkjhnbmaaGreatDoorKnv
namespace Go.Proofs.YtdlmdmpkjhnbmaaGreatDoor
open Go.RowKit Go.Gq
set_option maxRecDepth 100000
theorem zzBytes_FnTermToIndexKeyCaseTable_any (ty : Int) (s r : ByteArray) (wq : Bool) (op iy : Int) (w : World) (m0 : s.size ≤ 9223372036854775807) (m1 : r.size ≤ 9223372036854775807) :
    Calls Tryz.prog 31 #[.int .i64 ty, .string s, .string r, .bool wq, .int .i64 op, .int .i64 iy] w (SomeBool w) := by
  by_cases g0 : s.size ≤ 1048576
  rotate_left
  · go_enter Tryz.func31, Tryz.ntmps31
    go_wp2
    go_ret
    exact ⟨false, rfl, rfl⟩
  by_cases g1 : r.size ≤ 1048576
  rotate_left
  · go_enter Tryz.func31, Tryz.ntmps31
    go_wp2
    go_ret
    exact ⟨false, rfl, rfl⟩
  by_cases t1 : (s.size : Int) + (r.size : Int) ≤ 1048576
  rotate_left
  · go_enter Tryz.func31, Tryz.ntmps31
    go_wp2
    go_ret
    exact ⟨false, rfl, rfl⟩
  go_enter Tryz.func31, Tryz.ntmps31
  go_wp2
  go_ret
  exact ⟨true, rfl, rfl⟩
set_option maxHeartbeats 4000000 in
theorem FnTermToIndexKeyCaseTable_walk (ty : Int) (s r : ByteArray) (wq : Bool) (op iy : Int) (w : World) (m0 : s.size ≤ 9223372036854775807) (m1 : r.size ≤ 9223372036854775807) :
    Calls Tryz.prog 9 #[.int .i64 ty, .string s, .string r, .bool wq, .int .i64 op, .int .i64 iy] w (TrueKept w) := by
  go_enter Tryz.func9, Tryz.ntmps9
  go_wp2_with fail
  refine (zzBytes_FnTermToIndexKeyCaseTable_any ty s r wq op iy w m0 m1).mono ?_
  rintro e w1 ⟨b, rfl, rfl⟩
  cases b with
  | false =>
    go_wp2
    go_ret
    exact ⟨rfl, Below.refl _ _⟩
  | true =>
  by_cases g0 : 1048576 < s.size
  · go_wp2
    go_ret
    exact ⟨rfl, Below.refl _ _⟩
  by_cases g1 : 1048576 < r.size
  · go_wp2
    go_ret
    exact ⟨rfl, Below.refl _ _⟩
  by_cases g2 : (1048576 : Int) < (s.size : Int) + (r.size : Int)
  · go_wp2
    go_ret
    exact ⟨rfl, Below.refl _ _⟩
  go_wp2_with fail
  refine (zzDecimal_any s w m0).mono ?_
  rintro e w1 ⟨v, b, rfl, hv, rfl⟩
  by_cases t10 : ty = 10
  · subst t10
    cases b with
    | false =>
      go_wp2
      go_ret
      exact ⟨rfl, Below.refl _ _⟩
    | true =>
    have HV := Lib.hid (hv rfl)
    have hb := zzDec_bd (hv rfl)
    clear hv
    go_wp2_with fail
    obtain ⟨W1, hW⟩ : ∃ W : World, W = w.alloc (.cells (termC 10 np s np np np ns) 58) := ⟨_, rfl⟩
    have a0 : W1.cell? ⟨w.heap.size, 0, none⟩ = some (.int .i64 10) := by rw [hW]; exact cell_new _ _ _ 0 _ rfl
    have a5 : W1.cell? ⟨w.heap.size, 5, none⟩ = some (.string s) := by rw [hW]; exact cell_new _ _ _ 5 _ rfl
    have hk : Kept w W1 := by rw [hW]; exact kept_alloc _ _
    have hsz : W1.heap.size = w.heap.size + 1 := by rw [hW]; simp
    rw [← hW]
    clear hW
    refine (ZK_of _ _ 1 v ⟨#[]⟩ W1 (key_num w.heap.size s v W1 (by omega) HV.out a0 a5) (kind_int v)).mono ?_
    rintro e w1 ⟨rfl, hk1⟩
    have K1 := Lib.hid (hk.trans hk1)
    have qv : (v == v) = true := by simp
    clear a0 a5 hk hk1 hsz
    go_wp2
    go_ret
    exact ⟨rfl, K1.out⟩
  have q10 : (ty == 10) = false := by simpa using t10
  by_cases t11 : ty = 11
  · subst t11
    by_cases i10 : iy = 10
    · subst i10
      cases b with
      | false =>
        go_wp2
        go_ret
        exact ⟨rfl, Below.refl _ _⟩
      | true =>
      have HV := Lib.hid (hv rfl)
      have hb := zzDec_bd (hv rfl)
      clear hv
      go_wp2_with fail
      obtain ⟨W1, hW⟩ : ∃ W : World, W = ((w.alloc (.cells (termC 11 np s (bs (w.heap.size + 1 + 1)) np np ns) 58)).alloc (.cells (termC 10 np s np np np ns) 58)).alloc (.cells #[.int .i64 op, bs (w.heap.size + 1)] 63) := ⟨_, rfl⟩
      obtain ⟨n1, n2, n3, hk⟩ := three_new _ _ _ _ _ _ _ _ hW
      rw [← hW]
      have c0 := n1 0 _ rfl
      have c6 := n1 6 _ rfl
      have t0 := n2 0 _ rfl
      have t5 := n2 5 _ rfl
      have u0 := n3 0 _ rfl
      have u1 := n3 1 _ rfl
      clear hW n1 n2 n3
      obtain ⟨y, hy⟩ : ∃ y, y = if op = 4 then -v else v := ⟨_, rfl⟩
      refine (ZK_of _ _ 1 y ⟨#[]⟩ W1 (key_un w.heap.size (w.heap.size + 1 + 1) (w.heap.size + 1) op s v y hy W1 (by omega) HV.out c0 c6 u0 u1 t0 t5) (kind_int y)).mono ?_
      rintro e w1 ⟨rfl, hk1⟩
      have K1 := Lib.hid (hk.trans hk1)
      clear hk hk1 c0 c6 t0 t5 u0 u1
      by_cases ho : op = 4
      · have h2 : y = -v := by rw [hy, if_pos ho]
        clear hy
        subst ho h2
        have qv : (-v == -v) = true := by simp
        go_wp2
        go_ret
        exact ⟨rfl, K1.out⟩
      · have h2 : y = v := by rw [hy, if_neg ho]
        clear hy
        subst h2
        have qo : (op == 4) = false := by simpa using ho
        have qv : (y == y) = true := by simp
        go_wp2
        go_ret
        exact ⟨rfl, K1.out⟩
    · have q10' : (iy == 10) = false := by simpa using i10
      clear hv
      go_wp2_with fail
      obtain ⟨W1, hW⟩ : ∃ W : World, W = ((w.alloc (.cells (termC 11 np s (bs (w.heap.size + 1 + 1)) np np ns) 58)).alloc (.cells (termC iy np s np np np ns) 58)).alloc (.cells #[.int .i64 op, bs (w.heap.size + 1)] 63) := ⟨_, rfl⟩
      obtain ⟨n1, n2, n3, hk⟩ := three_new _ _ _ _ _ _ _ _ hW
      rw [← hW]
      have c0 := n1 0 _ rfl
      have c6 := n1 6 _ rfl
      have t0 := n2 0 _ rfl
      have t5 := n2 5 _ rfl
      have u0 := n3 0 _ rfl
      have u1 := n3 1 _ rfl
      clear hW n1 n2 n3
      refine (ZK_of _ _ 0 0 ⟨#[]⟩ W1 ((key_un_other w.heap.size (w.heap.size + 1 + 1) (w.heap.size + 1) op iy W1 c0 c6 u0 u1 t0 i10).mono fun e w' ⟨h1, h2⟩ => ⟨h1, h2 ▸ Below.refl _ _⟩) kind_nil).mono ?_
      rintro e w1 ⟨rfl, hk1⟩
      have K1 := Lib.hid (hk.trans hk1)
      have qi : (iy != 10) = true := by simpa using i10
      clear hk hk1 c0 c6 t0 t5 u0 u1
      go_wp2
      go_ret
      exact ⟨rfl, K1.out⟩
  have q11 : (ty == 11) = false := by simpa using t11
  clear hv
  by_cases t13 : ty = 13
  · subst t13
    cases wq with
    | true =>
      go_wp2_with fail
      obtain ⟨W1, hW⟩ : ∃ W : World, W = ((w.alloc (.cells (termC 13 np s np (bs (w.heap.size + 1)) np ns) 58)).alloc (.cells #[.string r, .slice (some ⟨w.heap.size + 1 + 1, 0, none⟩) 0 0] 67)).alloc (.cells #[] 55) := ⟨_, rfl⟩
      obtain ⟨n1, n2, _, hk⟩ := three_new _ _ _ _ _ _ _ _ hW
      rw [← hW]
      have c0 := n1 0 _ rfl
      have c8 := n1 8 _ rfl
      have s0 := n2 0 _ rfl
      have s1 := n2 1 _ rfl
      clear hW n1 n2
      refine (ZK_of _ .nilIface 0 0 ⟨#[]⟩ W1 ((key_str w.heap.size (w.heap.size + 1) r (some ⟨w.heap.size + 1 + 1, 0, none⟩) 0 0 W1 c0 c8 s0 s1).mono fun e w' ⟨h1, h2⟩ => ⟨h1, h2 ▸ Below.refl _ _⟩) kind_nil).mono ?_
      rintro e w1 ⟨rfl, hk1⟩
      have K1 := Lib.hid (hk.trans hk1)
      clear hk hk1 c0 c8 s0 s1
      go_wp2
      go_ret
      exact ⟨rfl, K1.out⟩
    | false =>
      go_wp2_with fail
      obtain ⟨W1, hW⟩ : ∃ W : World, W = (w.alloc (.cells (termC 13 np s np (bs (w.heap.size + 1)) np ns) 58)).alloc (.cells #[.string r, ns] 67) := ⟨_, rfl⟩
      obtain ⟨n1, n2, hk⟩ := two_new _ _ _ _ _ _ hW
      rw [← hW]
      have c0 := n1 0 _ rfl
      have c8 := n1 8 _ rfl
      have s0 := n2 0 _ rfl
      have s1 := n2 1 _ rfl
      clear hW n1 n2
      refine (ZK_of _ (.iface 9 (.string r)) 2 0 r W1 ((key_str w.heap.size (w.heap.size + 1) r none 0 0 W1 c0 c8 s0 s1).mono fun e w' ⟨h1, h2⟩ => ⟨h1, h2 ▸ Below.refl _ _⟩) (kind_str r)).mono ?_
      rintro e w1 ⟨rfl, hk1⟩
      have K1 := Lib.hid (hk.trans hk1)
      clear hk hk1 c0 c8 s0 s1
      go_wp2
      go_ret
      exact ⟨rfl, K1.out⟩
  have q13 : (ty == 13) = false := by simpa using t13
  go_wp2_with fail
  obtain ⟨W1, hW⟩ : ∃ W : World, W = w.alloc (.cells (termC ty np s np np np ns) 58) := ⟨_, rfl⟩
  have c0 : W1.cell? ⟨w.heap.size, 0, none⟩ = some (.int .i64 ty) := by rw [hW]; exact cell_new _ _ _ 0 _ rfl
  have hk : Kept w W1 := by rw [hW]; exact kept_alloc _ _
  rw [← hW]
  clear hW
  refine (ZK_of _ _ 0 0 ⟨#[]⟩ W1 ((key_other w.heap.size ty W1 c0 t10 t11 t13).mono fun e w' ⟨h1, h2⟩ => ⟨h1, h2 ▸ Below.refl _ _⟩) kind_nil).mono ?_
  rintro e w1 ⟨rfl, hk1⟩
  have K1 := Lib.hid (hk.trans hk1)
  clear hk hk1 c0
  go_wp2
  go_ret
  exact ⟨rfl, K1.out⟩
end Go.Proofs.YtdlmdmpkjhnbmaaGreatDoor
