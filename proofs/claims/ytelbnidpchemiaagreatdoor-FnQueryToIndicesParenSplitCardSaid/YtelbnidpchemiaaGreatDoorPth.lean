/- The walk of FnQueryToIndicesPathModel. -/
import Derived.Test.YtelbnidpchemiaaGreatDoorPtm
import Derived.Test.YtelbnidpchemiaaGreatDoorQti
namespace Go.Proofs.YtelbnidpchemiaaGreatDoor
open Go.RowKit Go.Gq
set_option maxRecDepth 100000
theorem two_new (w : World) (c1 c2 : Array Value) (t1 t2 : TypeId) (W : World) (hW : W = (w.alloc (.cells c1 t1)).alloc (.cells c2 t2)) :
    (∀ k v, c1[k]? = some v → W.cell? ⟨w.heap.size, k, none⟩ = some v) ∧ (∀ k v, c2[k]? = some v → W.cell? ⟨w.heap.size + 1, k, none⟩ = some v) ∧ Kept w W := by
  have hs : (w.alloc (.cells c1 t1)).heap.size = w.heap.size + 1 := by simp
  subst hW
  refine ⟨fun k v h => kept_cell (kept_alloc _ _) (cell_fresh _ _ _ k _ h), fun k v h => ?_, (kept_alloc _ _).trans (kept_alloc _ _)⟩
  rw [← hs]; exact cell_fresh _ _ _ k _ h
theorem three_new (w : World) (c1 c2 c3 : Array Value) (t1 t2 t3 : TypeId) (W : World) (hW : W = ((w.alloc (.cells c1 t1)).alloc (.cells c2 t2)).alloc (.cells c3 t3)) :
    (∀ k v, c1[k]? = some v → W.cell? ⟨w.heap.size, k, none⟩ = some v) ∧ (∀ k v, c2[k]? = some v → W.cell? ⟨w.heap.size + 1, k, none⟩ = some v) ∧ (∀ k v, c3[k]? = some v → W.cell? ⟨w.heap.size + 1 + 1, k, none⟩ = some v) ∧ Kept w W := by
  have hs : ((w.alloc (.cells c1 t1)).alloc (.cells c2 t2)).heap.size = w.heap.size + 1 + 1 := by simp
  obtain ⟨h1, h2, h3⟩ := two_new w c1 c2 t1 t2 _ rfl
  subst hW
  refine ⟨fun k v h => kept_cell (kept_alloc _ _) (h1 k v h), fun k v h => kept_cell (kept_alloc _ _) (h2 k v h), fun k v h => ?_, h3.trans (kept_alloc _ _)⟩
  rw [← hs]; exact cell_fresh _ _ _ k _ h
/-- Are the first j steps all keys (and is there one)? -/
def okB (kd : Nat → Int) (n1 : Nat) (s1 : Nat → ByteArray) (n0 j : Nat) : Bool := decide (0 < n0) && (List.range j).all (fun i => (pkA kd n1 s1 i).isSome)
theorem pk_some {k : Int} {x : ByteArray} (h : k.tmod 5 = 0 ∨ k.tmod 5 = 1) : (pk k x).isSome = true := by
  unfold pk
  rcases h with h | h
  · rw [if_pos h]; rfl
  · rw [if_neg (by omega), if_pos h]; rfl
theorem pk_none {k : Int} {x : ByteArray} (h : ¬ (k.tmod 5 = 0 ∨ k.tmod 5 = 1)) : pk k x = none := by
  unfold pk
  rw [if_neg (fun e => h (.inl e)), if_neg (fun e => h (.inr e))]
theorem okB_yes {kd : Nat → Int} {n1 : Nat} {s1 : Nat → ByteArray} {n0 j : Nat} {ob : Bool} (h : ob = okB kd n1 s1 n0 j) (hk : (kd j).tmod 5 = 0 ∨ (kd j).tmod 5 = 1) : okB kd n1 s1 n0 (j + 1) = ob := by
  rw [h]
  unfold okB
  rw [List.range_succ, List.all_append]
  simp [pkA, pk_some hk]
theorem okB_no {kd : Nat → Int} {n1 : Nat} {s1 : Nat → ByteArray} {n0 j : Nat} (hk : ¬ ((kd j).tmod 5 = 0 ∨ (kd j).tmod 5 = 1)) : okB kd n1 s1 n0 (j + 1) = false := by
  unfold okB
  rw [List.range_succ, List.all_append]
  simp [pkA, pk_none hk]
theorem allSome_of_all (f : Nat → Option ByteArray) (n : Nat) (h : (List.range n).all (fun i => (f i).isSome) = true) : ∃ ss, allSome ((List.range n).map f) = some ss := by
  refine ⟨(List.range n).map (fun i => (f i).getD ⟨#[]⟩), allSome_map ?_⟩
  rw [List.map_map]
  refine List.map_congr_left fun i hi => ?_
  have := List.all_eq_true.1 h i hi
  obtain ⟨y, hy⟩ := Option.isSome_iff_exists.1 this
  simp [hy]
theorem okB_none {kd : Nat → Int} {n1 : Nat} {s1 : Nat → ByteArray} {n0 : Nat} {ks : List (Option ByteArray)} (hk : (n0 = 0 → ks = [none]) ∧ (0 < n0 → ks = pkL kd n1 s1 n0)) (h : allSome ks = none) : okB kd n1 s1 n0 n0 = false := by
  cases e : okB kd n1 s1 n0 n0 with
  | false => rfl
  | true =>
    simp only [okB, Bool.and_eq_true, decide_eq_true_eq] at e
    obtain ⟨ss, hs⟩ := allSome_of_all _ _ e.2
    rw [hk.2 e.1] at h
    rw [show pkL kd n1 s1 n0 = (List.range n0).map (pkA kd n1 s1) from rfl, hs] at h
    cases h
theorem allSome_at : ∀ {f : Nat → Option ByteArray} {n : Nat} {ss : List ByteArray}, allSome ((List.range n).map f) = some ss → ∀ k, k < n → f k = some (ss.getD k ⟨#[]⟩) := by
  intro f n ss h k hk
  have key : ∀ (ks : List (Option ByteArray)) (ss : List ByteArray), allSome ks = some ss → ∀ k, k < ks.length → ks[k]? = some (some (ss.getD k ⟨#[]⟩)) := by
    intro ks
    induction ks with
    | nil => intro ss _ k hk; exact absurd hk (Nat.not_lt_zero _)
    | cons o r ih =>
      intro ss h k hk
      cases o with
      | none => cases h
      | some x =>
        cases hr : allSome r with
        | none => simp [allSome, hr] at h
        | some y =>
          simp only [allSome, hr, Option.map_some, Option.some.injEq] at h
          subst h
          cases k with
          | zero => simp
          | succ k => simpa using ih y hr k (by simpa using hk)
  have := key _ _ h k (by simpa using hk)
  simp only [List.getElem?_map, List.getElem?_range hk, Option.map_some, Option.some.injEq] at this
  exact this
theorem okB_some {kd : Nat → Int} {n1 : Nat} {s1 : Nat → ByteArray} {n0 : Nat} {ks : List (Option ByteArray)} {ss : List ByteArray} (hk : (n0 = 0 → ks = [none]) ∧ (0 < n0 → ks = pkL kd n1 s1 n0)) (h : allSome ks = some ss) : okB kd n1 s1 n0 n0 = true := by
  rcases Nat.eq_zero_or_pos n0 with h0 | h0
  · rw [hk.1 h0] at h; cases h
  · rw [hk.2 h0] at h
    simp only [okB, Bool.and_eq_true, decide_eq_true_eq]
    refine ⟨h0, List.all_eq_true.2 fun i hi => ?_⟩
    rw [allSome_at h i (List.mem_range.1 hi)]; rfl
set_option maxHeartbeats 1000000 in
theorem zzBytes_FnQueryToIndicesPathModel_any (a0 : Option Addr) (n0 c0 : Nat) (_kd : Nat → Int) (a1 : Option Addr) (n1 c1 : Nat) (s1 : Nat → ByteArray) (a2 : Option Addr) (n2 c2 : Nat) (s2 : Nat → ByteArray) (pr : Bool) (w : World) (h1 : Rd w a1 n1 (fun i => .string (s1 i))) (h2 : Rd w a2 n2 (fun i => .string (s2 i))) (m0 : n0 ≤ 9223372036854775807) (m1 : n1 ≤ 9223372036854775807) (k1 : ∀ i, i < n1 → (s1 i).size ≤ 9223372036854775807) (m2 : n2 ≤ 9223372036854775807) (k2 : ∀ i, i < n2 → (s2 i).size ≤ 9223372036854775807) :
    Calls Tryz.prog 57 #[.slice a0 n0 c0, .slice a1 n1 c1, .slice a2 n2 c2, .bool pr] w (SomeBool w) := by
  have H1 := Lib.hid h1
  have H1S := Lib.hid k1
  have H2 := Lib.hid h2
  have H2S := Lib.hid k2
  clear h1 k1 h2 k2
  by_cases g0 : n0 ≤ 1048576
  rotate_left
  · go_enter Tryz.func57, Tryz.ntmps57
    go_wp2
    go_ret
    exact ⟨false, rfl, rfl⟩
  by_cases g1 : n1 ≤ 1048576
  rotate_left
  · go_enter Tryz.func57, Tryz.ntmps57
    go_wp2
    go_ret
    exact ⟨false, rfl, rfl⟩
  by_cases g2 : (n0 : Int) + (n1 : Int) ≤ 1048576
  rotate_left
  · go_enter Tryz.func57, Tryz.ntmps57
    go_wp2
    go_ret
    exact ⟨false, rfl, rfl⟩
  go_enter Tryz.func57, Tryz.ntmps57
  go_wp2
  go_loop [9, 10] (fun t i => ∃ (k : Nat) (z : Int), k ≤ n1 ∧ i = .int .i64 k ∧ t = .int .i64 z ∧ 0 ≤ z ∧ z ≤ 1048576) (fun _ i => n1 - (intOf i).toNat)
  case atStart => exact ⟨0, _, Nat.zero_le _, rfl, rfl, by omega, by omega⟩
  case round =>
    obtain ⟨k, z0, hk, rfl, rfl, hz0, hz1⟩ := hrel
    by_cases hlt : k < n1
    · obtain ⟨b, off, e1, hc⟩ := H1.out.at hlt
      subst e1
      obtain ⟨x, hx⟩ : ∃ x, x = s1 k := ⟨_, rfl⟩
      have hsz : x.size ≤ 9223372036854775807 := by rw [hx]; exact H1S.out k hlt
      rw [← hx] at hc
      clear hx
      by_cases q1 : x.size ≤ 1048576
      rotate_left
      · go_wp2
        go_ret
        exact ⟨false, rfl, rfl⟩
      by_cases q2 : z0 + x.size ≤ 1048576
      rotate_left
      · go_wp2
        go_ret
        exact ⟨false, rfl, rfl⟩
      go_wp2
      go_round
      case rel => exact ⟨k + 1, z0 + x.size, by omega, by go_num, rfl, by omega, by omega⟩
      case measure => simp [intOf]; omega
    have hk2 : (n1 : Int) ≤ (k : Int) := by omega
    by_cases q3 : n2 ≤ 1048576
    rotate_left
    · go_wp2
      go_ret
      exact ⟨false, rfl, rfl⟩
    by_cases q4 : z0 + n2 ≤ 1048576
    rotate_left
    · go_wp2
      go_ret
      exact ⟨false, rfl, rfl⟩
    go_wp2
    clear hlt hk hk2
    go_loop [9, 11] (fun t i => ∃ (k : Nat) (z : Int), k ≤ n2 ∧ i = .int .i64 k ∧ t = .int .i64 z ∧ 0 ≤ z ∧ z ≤ 1048576) (fun _ i => n2 - (intOf i).toNat)
    case atStart => exact ⟨0, _, Nat.zero_le _, rfl, rfl, by omega, by omega⟩
    case round =>
      obtain ⟨k, z1, hk, rfl, rfl, hz0, hz1⟩ := hrel
      by_cases hlt : k < n2
      · obtain ⟨b, off, e1, hc⟩ := H2.out.at hlt
        subst e1
        obtain ⟨x, hx⟩ : ∃ x, x = s2 k := ⟨_, rfl⟩
        have hsz : x.size ≤ 9223372036854775807 := by rw [hx]; exact H2S.out k hlt
        rw [← hx] at hc
        clear hx
        by_cases q1 : x.size ≤ 1048576
        rotate_left
        · go_wp2
          go_ret
          exact ⟨false, rfl, rfl⟩
        by_cases q2 : z1 + x.size ≤ 1048576
        rotate_left
        · go_wp2
          go_ret
          exact ⟨false, rfl, rfl⟩
        go_wp2
        go_round
        case rel => exact ⟨k + 1, z1 + x.size, by omega, by go_num, rfl, by omega, by omega⟩
        case measure => simp [intOf]; omega
      have hk2 : (n2 : Int) ≤ (k : Int) := by omega
      go_wp2
      go_ret
      exact ⟨true, rfl, rfl⟩
set_option maxHeartbeats 16000000 in
theorem FnQueryToIndicesPathModel_walk (a0 : Option Addr) (n0 c0 : Nat) (kd : Nat → Int) (a1 : Option Addr) (n1 c1 : Nat) (s1 : Nat → ByteArray) (a2 : Option Addr) (n2 c2 : Nat) (s2 : Nat → ByteArray) (pr : Bool) (w : World) (h0 : Rd w a0 n0 (fun i => .int .u8 (kd i))) (hkd : ∀ i, i < n0 → 0 ≤ kd i ∧ kd i < 256) (h1 : Rd w a1 n1 (fun i => .string (s1 i))) (h2 : Rd w a2 n2 (fun i => .string (s2 i))) (m0 : n0 ≤ 9223372036854775807) (m1 : n1 ≤ 9223372036854775807) (k1 : ∀ i, i < n1 → (s1 i).size ≤ 9223372036854775807) (m2 : n2 ≤ 9223372036854775807) (k2 : ∀ i, i < n2 → (s2 i).size ≤ 9223372036854775807) :
    Calls Tryz.prog 12 #[.slice a0 n0 c0, .slice a1 n1 c1, .slice a2 n2 c2, .bool pr] w (TrueKept w) := by
  have H0 := Lib.hid h0
  have H1 := Lib.hid h1
  have H2 := Lib.hid h2
  have HKD := Lib.hid hkd
  have HZ := zzBytes_FnQueryToIndicesPathModel_any a0 n0 c0 kd a1 n1 c1 s1 a2 n2 c2 s2 pr w h1 h2 m0 m1 k1 m2 k2
  clear h0 h1 h2 k1 k2 hkd
  go_enter Tryz.func12, Tryz.ntmps12
  go_wp2_with fail
  refine HZ.mono ?_
  rintro e w1 ⟨b, rfl, rfl⟩
  clear HZ
  cases b with
  | false =>
    go_wp2
    go_ret
    exact ⟨rfl, Below.refl _ _⟩
  | true =>
  by_cases g0 : 65536 < n0
  · go_wp2
    go_ret
    exact ⟨rfl, Below.refl _ _⟩
  by_cases g1 : 65536 < n1
  · go_wp2
    go_ret
    exact ⟨rfl, Below.refl _ _⟩
  by_cases g2 : 65536 < n2
  · go_wp2
    go_ret
    exact ⟨rfl, Below.refl _ _⟩
  go_wp2_with fail
  refine (zzStrsBytes_any a1 n1 c1 s1 w H1.out m1).mono ?_
  rintro e w1 ⟨t1, rfl, rfl⟩
  go_wp2_with fail
  refine (zzStrsBytes_any a2 n2 c2 s2 w H2.out m2).mono ?_
  rintro e w1 ⟨t2, rfl, rfl⟩
  by_cases g3 : (1048576 : Int) < wrap64 (wrap64 ((n0 : Int) + t1) + t2)
  · go_wp2
    go_ret
    exact ⟨rfl, Below.refl _ _⟩
  go_wp2_with fail
  clear g3
  refine (zzCloneU8s_rd a0 n0 c0 kd w (by omega) H0.out).mono ?_
  rintro e w1 ⟨x0, xc0, rfl, hr, hk1⟩
  have RK1 := Lib.hid hr
  have K1 := Lib.hid hk1
  clear hr hk1
  go_wp2_with fail
  refine (zzCloneStrs_rd a1 n1 c1 s1 w1 (by omega) (H1.out.kept K1.out)).mono ?_
  rintro e w2 ⟨x1, xc1, rfl, hr, hk2⟩
  have RN2 := Lib.hid hr
  have RK2 := Lib.hid (RK1.out.kept hk2)
  have K2 := Lib.hid (K1.out.trans hk2)
  clear hr hk2 RK1 K1
  go_wp2_with fail
  refine (zzCloneStrs_rd a2 n2 c2 s2 w2 (by omega) (H2.out.kept K2.out)).mono ?_
  rintro e w3 ⟨x2, xc2, rfl, hr, hk3⟩
  have RX3 := Lib.hid hr
  have RN3 := Lib.hid (RN2.out.kept hk3)
  have RK3 := Lib.hid (RK2.out.kept hk3)
  have K3 := Lib.hid (K2.out.trans hk3)
  clear hr hk3 RN2 RK2 K2
  by_cases hz : n0 = 0
  · subst hz
    have hz2 : ((0 : Nat) : Int) = 0 := rfl
    obtain ⟨w5, hw5⟩ : ∃ W : World, W = w3.alloc (.cells (termC 1 np ⟨#[]⟩ np np np ns) 88) := ⟨_, rfl⟩
    have hz5 : w5.heap.size = w3.heap.size + 1 := by rw [hw5]; simp
    have hk5 : Kept w3 w5 := by rw [hw5]; exact kept_alloc _ _
    have hc5 : w5.cell? ⟨w3.heap.size, 0, none⟩ = some (.int .i64 1) := by rw [hw5]; exact cell_fresh _ _ _ 0 _ rfl
    obtain ⟨t, ht⟩ : ∃ t, t = w3.heap.size := ⟨_, rfl⟩
    have HT : Hid (∀ W, Kept w5 W → TermIx W.heap.size W t [none]) := fun W hW => other_ix _ _ 1 W (by have := hW.size; omega) (by rw [ht]; exact kept_cell hW hc5) (by decide) (by decide)
    have htl : t < w5.heap.size := by omega
    have K5 := Lib.hid (K3.out.trans hk5)
    have RX5 := Lib.hid (RX3.out.kept hk5)
    clear hc5 hk5 RN3 RX3 RK3 K3 H0 H1 H2 hz2
    cases pr with
    | false =>
      go_wp2_with fail
      rw [← hw5, ← hz5]
      rw [← ht]
      clear hw5 hz5 ht
      obtain ⟨W6, hW⟩ : ∃ W : World, W = w5.alloc (.cells (queryC t) 42) := ⟨_, rfl⟩
      have hk6 : Kept w5 W6 := by rw [hW]; exact kept_alloc _ _
      have hz6 : W6.heap.size = w5.heap.size + 1 := by rw [hW]; simp
      have hc3 : W6.cell? ⟨w5.heap.size, 3, none⟩ = some (bq t) := by rw [hW]; exact cell_fresh _ _ _ 3 _ rfl
      have HQ : Hid (QueryIx W6.heap.size W6 w5.heap.size [none]) := query_term W6.heap.size w5.heap.size t [none] W6 (by omega) hc3 (HT.out W6 hk6)
      clear hc3
      rw [← hW]
      have K6 := Lib.hid (K5.out.trans hk6)
      have RX6 := Lib.hid (RX5.out.kept hk6)
      clear hk6 hz6 hW
      refine (ZZQueryToIndices_any w5.heap.size [none] x2 n2 xc2 s2 W6 HQ.out RX6.out (by omega) (by simp) (by simp)).mono ?_
      rintro e w7 ⟨hk7, hr⟩
      have K7 := Lib.hid (K6.out.trans hk7)
      clear hk7
      rcases hr with ⟨_, rfl⟩ | ⟨ss, b, hs, _⟩
      · go_wp2_with fail
        go_loop [15, 16, 17] (fun ok i _ => ok = .bool false ∧ i = .int .i64 0) (fun _ _ _ => 0)
        case atStart => exact ⟨rfl, rfl⟩
        case round =>
        obtain ⟨rfl, rfl⟩ := hrel
        go_wp2
        go_ret
        exact ⟨rfl, K7.out⟩
      · cases hs
    | true =>
      go_wp2_with fail
      rw [← hw5, ← hz5]
      rw [← ht]
      clear hw5 hz5 ht
      obtain ⟨W6, hW⟩ : ∃ W : World, W = ((w5.alloc (.cells (queryC t) 42)).alloc (.cells (termC 20 np ⟨#[]⟩ np np (bq w5.heap.size) ns) 88)).alloc (.cells (queryC (w5.heap.size + 1)) 42) := ⟨_, rfl⟩
      obtain ⟨f1, f2, f3, hk6⟩ := three_new _ _ _ _ _ _ _ _ hW
      have hz6 : W6.heap.size = w5.heap.size + 1 + 1 + 1 := by rw [hW]; simp
      have HQ : Hid (QueryIx W6.heap.size W6 (w5.heap.size + 1 + 1) [none]) := by
        have hin := query_term W6.heap.size w5.heap.size t [none] W6 (by omega) (f1 3 _ rfl) (HT.out W6 hk6)
        have htm := term_query W6.heap.size (w5.heap.size + 1) w5.heap.size none 0 0 (fun _ => none) (fun _ => 0) [none] W6 (by omega) (f2 0 _ rfl) (f2 15 _ rfl) hin (f2 16 _ rfl) (.inl rfl) (fun x e => by cases e) (fun j hj => absurd hj (Nat.not_lt_zero _))
        simp only [List.range_zero, List.map_nil, List.append_nil] at htm
        exact query_term W6.heap.size (w5.heap.size + 1 + 1) (w5.heap.size + 1) [none] W6 (by omega) (f3 3 _ rfl) htm
      clear f1 f2 f3
      rw [← hW]
      have K6 := Lib.hid (K5.out.trans hk6)
      have RX6 := Lib.hid (RX5.out.kept hk6)
      clear hk6 hz6 hW
      refine (ZZQueryToIndices_any (w5.heap.size + 1 + 1) [none] x2 n2 xc2 s2 W6 HQ.out RX6.out (by omega) (by simp) (by simp)).mono ?_
      rintro e w7 ⟨hk7, hr⟩
      have K7 := Lib.hid (K6.out.trans hk7)
      clear hk7
      rcases hr with ⟨_, rfl⟩ | ⟨ss, b, hs, _⟩
      · go_wp2_with fail
        go_loop [15, 16, 17] (fun ok i _ => ok = .bool false ∧ i = .int .i64 0) (fun _ _ _ => 0)
        case atStart => exact ⟨rfl, rfl⟩
        case round =>
        obtain ⟨rfl, rfl⟩ := hrel
        go_wp2
        go_ret
        exact ⟨rfl, K7.out⟩
      · cases hs
  · have hz2 : ((n0 : Int) == 0) = false := by simp; omega
    go_wp2_with fail
    refine (zzPathTerm_any x0 n0 xc0 kd x1 n1 xc1 s1 n0 w3 RK3.out RN3.out HKD.out (by omega) (by omega) (by omega) (Nat.le_refl _)).mono ?_
    rintro e w5 ⟨t, rfl, ht1, htl, hk5⟩
    obtain ⟨ks, hks⟩ : ∃ ks : List (Option ByteArray), ks = pkL kd n1 s1 n0 := ⟨_, rfl⟩
    rw [← hks] at ht1
    have HT := Lib.hid ht1
    have HKS : Hid ((n0 = 0 → ks = [none]) ∧ (0 < n0 → ks = pkL kd n1 s1 n0)) := ⟨fun h => absurd h hz, fun _ => hks⟩
    have HKL : Hid (1 ≤ ks.length ∧ ks.length ≤ 65537) := by rw [hks]; simp [pkL, Hid]; omega
    have K5 := Lib.hid (K3.out.trans hk5)
    have RN5 := Lib.hid (RN3.out.kept hk5)
    have RX5 := Lib.hid (RX3.out.kept hk5)
    have RK5 := Lib.hid (RK3.out.kept hk5)
    clear hks ht1 hk5 RN3 RX3 RK3 K3 H0 H1 H2 hz hz2
    cases pr with
    | false =>
      go_wp2_with fail
      obtain ⟨W6, hW⟩ : ∃ W : World, W = w5.alloc (.cells (queryC t) 42) := ⟨_, rfl⟩
      have hk6 : Kept w5 W6 := by rw [hW]; exact kept_alloc _ _
      have hz6 : W6.heap.size = w5.heap.size + 1 := by rw [hW]; simp
      have hc3 : W6.cell? ⟨w5.heap.size, 3, none⟩ = some (bq t) := by rw [hW]; exact cell_fresh _ _ _ 3 _ rfl
      have HQ : Hid (QueryIx W6.heap.size W6 w5.heap.size ks) := query_term W6.heap.size w5.heap.size t ks W6 (by omega) hc3 (HT.out W6 hk6)
      rw [← hW]
      have K6 := Lib.hid (K5.out.trans hk6)
      have RN6 := Lib.hid (RN5.out.kept hk6)
      have RX6 := Lib.hid (RX5.out.kept hk6)
      have RK6 := Lib.hid (RK5.out.kept hk6)
      try clear hc3
      clear hk6 hz6 hW
      refine (ZZQueryToIndices_any w5.heap.size ks x2 n2 xc2 s2 W6 HQ.out RX6.out (by omega) (by have := HKL.out; omega) HKL.out.1).mono ?_
      rintro e w7 ⟨hk7, hr⟩
      have K7 := Lib.hid (K6.out.trans hk7)
      have RN7 := Lib.hid (RN6.out.kept hk7)
      have RX7 := Lib.hid (RX6.out.kept hk7)
      have RK7 := Lib.hid (RK6.out.kept hk7)
      clear hk7
      rcases hr with ⟨hn, rfl⟩ | ⟨ss, b, hs, rfl, hrd⟩
      · have HN := Lib.hid hn
        clear hn
        go_wp2_with fail
        go_loop [15, 16, 17] (fun ok i _ => ∃ j : Nat, j ≤ n0 ∧ i = .int .i64 j ∧ ok = .bool (okB kd n1 s1 n0 j)) (fun _ i _ => n0 - (intOf i).toNat)
        case atStart =>
          refine ⟨0, Nat.zero_le _, rfl, ?_⟩
          simp [okB]
        case round =>
        obtain ⟨j, hj, rfl, rfl⟩ := hrel
        by_cases hlt : j < n0
        · obtain ⟨xb, xo, rfl, hc0⟩ := RK7.out.at hlt
          have hkj := HKD.out j hlt
          obtain ⟨kk, hkk⟩ : ∃ kk, kk = kd j := ⟨_, rfl⟩
          obtain ⟨ob, hob⟩ : ∃ ob, ob = okB kd n1 s1 n0 j := ⟨_, rfl⟩
          rw [← hkk] at hc0 hkj
          rw [← hob]
          have q4 : (0 : Int) ≤ (j : Int) := by omega
          have q5 : (j : Int) < (n0 : Int) := by omega
          have HO := Lib.hid (And.intro hkk hob)
          clear hkk hob
          by_cases hr : kk.tmod 5 = 0 ∨ kk.tmod 5 = 1
          · have hst : Hid (okB kd n1 s1 n0 (j + 1) = ob) := okB_yes HO.out.2 (by rw [← HO.out.1]; exact hr)
            rcases hr with hr | hr
            all_goals
              go_wp2
              go_round
              case rel => exact ⟨j + 1, by omega, by go_num, by rw [hst.out]⟩
              case measure => simp [intOf]; omega
          · have hst : Hid (okB kd n1 s1 n0 (j + 1) = false) := okB_no (by rw [← HO.out.1]; exact hr)
            have et : kk.tmod 5 = kk % 5 := Int.tmod_eq_emod_of_nonneg hkj.1
            have hr3 : ¬ kk % 5 = 0 := by omega
            have hr4 : ¬ kk % 5 = 1 := by omega
            have hr1 : (kk % 5 != 0) = true := by simp; omega
            have hr2 : (kk % 5 != 1) = true := by simp; omega
            clear et
            go_wp2
            go_round
            case rel => exact ⟨j + 1, by omega, by go_num, by rw [hst.out]⟩
            case measure => simp [intOf]; omega
        have hj2 : (n0 : Int) ≤ (j : Int) := by omega
        obtain rfl : j = n0 := by omega
        have hokf : okB kd n1 s1 j j = false := okB_none HKS.out HN.out
        rw [hokf]
        go_wp2
        go_ret
        exact ⟨rfl, K7.out⟩
      have HS := Lib.hid (And.intro hs hrd)
      clear hs hrd
      go_wp2_with fail
      go_loop [15, 16, 17] (fun ok i _ => ∃ j : Nat, j ≤ n0 ∧ i = .int .i64 j ∧ ok = .bool (okB kd n1 s1 n0 j)) (fun _ i _ => n0 - (intOf i).toNat)
      case atStart =>
        refine ⟨0, Nat.zero_le _, rfl, ?_⟩
        simp [okB]
      case round =>
      obtain ⟨j, hj, rfl, rfl⟩ := hrel
      by_cases hlt : j < n0
      · obtain ⟨xb, xo, rfl, hc0⟩ := RK7.out.at hlt
        have hkj := HKD.out j hlt
        obtain ⟨kk, hkk⟩ : ∃ kk, kk = kd j := ⟨_, rfl⟩
        obtain ⟨ob, hob⟩ : ∃ ob, ob = okB kd n1 s1 n0 j := ⟨_, rfl⟩
        rw [← hkk] at hc0 hkj
        rw [← hob]
        have q4 : (0 : Int) ≤ (j : Int) := by omega
        have q5 : (j : Int) < (n0 : Int) := by omega
        have HO := Lib.hid (And.intro hkk hob)
        clear hkk hob
        by_cases hr : kk.tmod 5 = 0 ∨ kk.tmod 5 = 1
        · have hst : Hid (okB kd n1 s1 n0 (j + 1) = ob) := okB_yes HO.out.2 (by rw [← HO.out.1]; exact hr)
          rcases hr with hr | hr
          all_goals
            go_wp2
            go_round
            case rel => exact ⟨j + 1, by omega, by go_num, by rw [hst.out]⟩
            case measure => simp [intOf]; omega
        · have hst : Hid (okB kd n1 s1 n0 (j + 1) = false) := okB_no (by rw [← HO.out.1]; exact hr)
          have et : kk.tmod 5 = kk % 5 := Int.tmod_eq_emod_of_nonneg hkj.1
          have hr3 : ¬ kk % 5 = 0 := by omega
          have hr4 : ¬ kk % 5 = 1 := by omega
          have hr1 : (kk % 5 != 0) = true := by simp; omega
          have hr2 : (kk % 5 != 1) = true := by simp; omega
          clear et
          go_wp2
          go_round
          case rel => exact ⟨j + 1, by omega, by go_num, by rw [hst.out]⟩
          case measure => simp [intOf]; omega
      have hj2 : (n0 : Int) ≤ (j : Int) := by omega
      obtain rfl : j = n0 := by omega
      have hokt : okB kd n1 s1 j j = true := okB_some HKS.out HS.out.1
      rw [hokt]
      have hn0 : 0 < j := by
        have := hokt
        simp [okB] at this
        exact this.1
      have hks := HKS.out.2 hn0
      have hss : ss.length = j := by rw [allSome_len HS.out.1, hks]; simp [pkL]
      obtain ⟨M, hM⟩ : ∃ M, M = n2 + ss.length := ⟨_, rfl⟩
      have hM2 : M = n2 + j := by rw [hM, hss]
      have hrd := HS.out.2
      have hsm : allSome (pkL kd n1 s1 j) = some ss := by rw [← hks]; exact HS.out.1
      rw [← hM] at hrd ⊢
      have f1 : ∀ k, k < n2 → ((List.range n2).map s2 ++ ss).getD k ⟨#[]⟩ = s2 k := fun k hk => by
        rw [List.getD_eq_getElem?_getD, List.getElem?_append_left (by simpa using hk)]; simp [hk]
      have f3 : ∀ k, k < j → pkA kd n1 s1 k = some (((List.range n2).map s2 ++ ss).getD (n2 + k) ⟨#[]⟩) := fun k hk => by
        rw [List.getD_eq_getElem?_getD, List.getElem?_append_right (by simp), show n2 + k - ((List.range n2).map s2).length = k by simp, ← List.getD_eq_getElem?_getD]
        exact allSome_at hsm k hk
      have HR := Lib.hid (And.intro hrd (And.intro f1 f3))
      have q0 : ((M : Int) != (n2 : Int) + (j : Int)) = false := by simp; omega
      have HM := Lib.hid hM2
      have hm9 : M ≤ 1048576 := by omega
      clear hrd f1 f3 hM hM2 hss hsm hks hokt HS hlt hj hj2
      go_wp2_with fail
      go_loopw [18] (fun i wr => ∃ k r : Nat, k ≤ n2 ∧ i = .int .i64 k ∧ wr = w7.drewN r) (fun i _ => n2 - (intOf i).toNat)
      case atStart => exact ⟨0, 0, Nat.zero_le _, rfl, rfl⟩
      case round =>
      obtain ⟨k, r, hk, rfl, rfl⟩ := hrel
      by_cases hlt : k < n2
      · have hx := rd_at0 HR.out.1 (k := k) (by have := HM.out; omega)
        obtain ⟨yb, yo, rfl, hy⟩ := RX7.out.at hlt
        rw [HR.out.2.1 k hlt] at hx
        obtain ⟨x, hxx⟩ : ∃ x, x = s2 k := ⟨_, rfl⟩
        rw [← hxx] at hx hy
        have q4 : (0 : Int) ≤ (k : Int) := by omega
        have q5 : (k : Int) < (n2 : Int) := by omega
        have q6 : (k : Int) < (M : Int) := by have := HM.out; omega
        have q7 := beq_yes x
        clear hxx
        go_wp2_with fail
        go_quiet (fail)
        go_wp2
        go_roundw
        case rel => first | exact ⟨k + 1, _, by omega, by go_num, rfl⟩ | ((repeat apply Exists.intro); refine ⟨?_, rfl⟩; exact ⟨k + 1, _, by omega, by go_num, rfl⟩)
        case measure => simp [intOf]; omega
      obtain rfl : n2 = k := by omega
      have hk2 : (n2 : Int) ≤ (n2 : Int) := by omega
      have kd7 := kept_drewN w7 r
      have RY := Lib.hid (HR.out.1.kept kd7)
      have RNY := Lib.hid (RN7.out.kept kd7)
      have RKY := Lib.hid (RK7.out.kept kd7)
      have KY := Lib.hid (K7.out.trans kd7)
      clear hlt hk kd7 RX7 RN7 RK7 K7
      revert RY RNY RKY KY
      generalize w7.drewN r = Y
      intro RY RNY RKY KY
      go_wp2_with fail
      clear hk2
      go_loop [19, 20] (fun i _ => ∃ k : Nat, k ≤ j ∧ i = .int .i64 k) (fun i _ => j - (intOf i).toNat)
      case atStart => exact ⟨0, Nat.zero_le _, rfl⟩
      case round =>
      obtain ⟨k, hk, rfl⟩ := hrel
      by_cases hlt : k < j
      · obtain ⟨P, hP⟩ : ∃ P, P = n2 + k := ⟨_, rfl⟩
        have hx := rd_at0 RY.out (k := P) (by have := HM.out; omega)
        obtain ⟨zb, zo, rfl, hz⟩ := RKY.out.at hlt
        have hkj := HKD.out k hlt
        have hpk := HR.out.2.2 k hlt
        rw [← hP] at hpk
        obtain ⟨y, hy⟩ : ∃ y, y = ((List.range n2).map s2 ++ ss).getD P ⟨#[]⟩ := ⟨_, rfl⟩
        rw [← hy] at hpk hx
        obtain ⟨kk, hkk⟩ : ∃ kk, kk = kd k := ⟨_, rfl⟩
        unfold pkA at hpk
        rw [← hkk] at hz hkj hpk
        obtain ⟨x, hxx⟩ : ∃ x, x = tx n1 s1 k := ⟨_, rfl⟩
        rw [← hxx] at hpk
        have q4 : (0 : Int) ≤ (k : Int) := by omega
        have q5 : (k : Int) < (j : Int) := by omega
        have q6 : (P : Int) < (M : Int) := by have := HM.out; omega
        have q8 : (0 : Int) ≤ (P : Int) := by omega
        have q9 : (n2 : Int) + (k : Int) = (P : Int) := by omega
        have HX := Lib.hid hxx
        have HPK := Lib.hid hpk
        clear hP hy hkk hxx hpk
        go_wp2_with fail
        refine (zzTextAt_any x1 n1 xc1 s1 k Y RNY.out (by omega) (by omega)).mono ?_
        rintro e w8 ⟨rfl, rfl⟩
        rw [← HX.out]
        by_cases hr : kk.tmod 5 = 0
        · cases he : x.toList.isEmpty with
          | true =>
            have hy : y = ⟨#[107]⟩ := by
              have := HPK.out
              unfold pk at this
              rw [if_pos hr, he] at this
              simpa using this.symm
            subst hy
            go_wp2
            go_round
            case rel => exact ⟨k + 1, by omega, by go_num⟩
            case measure => simp [intOf]; omega
          | false =>
            have hy : y = x := by
              have := HPK.out
              unfold pk at this
              rw [if_pos hr, he] at this
              simpa using this.symm
            subst hy
            have q7 := beq_yes y
            go_wp2
            go_round
            case rel => exact ⟨k + 1, by omega, by go_num⟩
            case measure => simp [intOf]; omega
        · have hr0 : (kk.tmod 5 == 0) = false := by simpa using hr
          have hr3 : ¬ kk % 5 = 0 := by have et : kk.tmod 5 = kk % 5 := Int.tmod_eq_emod_of_nonneg hkj.1; omega
          have hy : y = x := by
            have := HPK.out
            unfold pk at this
            rw [if_neg hr] at this
            split at this
            · simpa using this.symm
            · cases this
          subst hy
          have q7 := beq_yes y
          go_wp2
          go_round
          case rel => exact ⟨k + 1, by omega, by go_num⟩
          case measure => simp [intOf]; omega
      have hk3 : (j : Int) ≤ (k : Int) := by omega
      go_wp2
      go_ret
      exact ⟨rfl, KY.out⟩
    | true =>
      go_wp2_with fail
      obtain ⟨W6, hW⟩ : ∃ W : World, W = ((w5.alloc (.cells (queryC t) 42)).alloc (.cells (termC 20 np ⟨#[]⟩ np np (bq w5.heap.size) ns) 88)).alloc (.cells (queryC (w5.heap.size + 1)) 42) := ⟨_, rfl⟩
      obtain ⟨f1, f2, f3, hk6⟩ := three_new _ _ _ _ _ _ _ _ hW
      have hz6 : W6.heap.size = w5.heap.size + 1 + 1 + 1 := by rw [hW]; simp
      have HQ : Hid (QueryIx W6.heap.size W6 (w5.heap.size + 1 + 1) ks) := by
        have hin := query_term W6.heap.size w5.heap.size t ks W6 (by omega) (f1 3 _ rfl) (HT.out W6 hk6)
        have htm := term_query W6.heap.size (w5.heap.size + 1) w5.heap.size none 0 0 (fun _ => none) (fun _ => 0) ks W6 (by omega) (f2 0 _ rfl) (f2 15 _ rfl) hin (f2 16 _ rfl) (.inl rfl) (fun x e => by cases e) (fun j hj => absurd hj (Nat.not_lt_zero _))
        simp only [List.range_zero, List.map_nil, List.append_nil] at htm
        exact query_term W6.heap.size (w5.heap.size + 1 + 1) (w5.heap.size + 1) ks W6 (by omega) (f3 3 _ rfl) htm
      clear f1 f2 f3
      rw [← hW]
      have K6 := Lib.hid (K5.out.trans hk6)
      have RN6 := Lib.hid (RN5.out.kept hk6)
      have RX6 := Lib.hid (RX5.out.kept hk6)
      have RK6 := Lib.hid (RK5.out.kept hk6)
      try clear hc3
      clear hk6 hz6 hW
      refine (ZZQueryToIndices_any (w5.heap.size + 1 + 1) ks x2 n2 xc2 s2 W6 HQ.out RX6.out (by omega) (by have := HKL.out; omega) HKL.out.1).mono ?_
      rintro e w7 ⟨hk7, hr⟩
      have K7 := Lib.hid (K6.out.trans hk7)
      have RN7 := Lib.hid (RN6.out.kept hk7)
      have RX7 := Lib.hid (RX6.out.kept hk7)
      have RK7 := Lib.hid (RK6.out.kept hk7)
      clear hk7
      rcases hr with ⟨hn, rfl⟩ | ⟨ss, b, hs, rfl, hrd⟩
      · have HN := Lib.hid hn
        clear hn
        go_wp2_with fail
        go_loop [15, 16, 17] (fun ok i _ => ∃ j : Nat, j ≤ n0 ∧ i = .int .i64 j ∧ ok = .bool (okB kd n1 s1 n0 j)) (fun _ i _ => n0 - (intOf i).toNat)
        case atStart =>
          refine ⟨0, Nat.zero_le _, rfl, ?_⟩
          simp [okB]
        case round =>
        obtain ⟨j, hj, rfl, rfl⟩ := hrel
        by_cases hlt : j < n0
        · obtain ⟨xb, xo, rfl, hc0⟩ := RK7.out.at hlt
          have hkj := HKD.out j hlt
          obtain ⟨kk, hkk⟩ : ∃ kk, kk = kd j := ⟨_, rfl⟩
          obtain ⟨ob, hob⟩ : ∃ ob, ob = okB kd n1 s1 n0 j := ⟨_, rfl⟩
          rw [← hkk] at hc0 hkj
          rw [← hob]
          have q4 : (0 : Int) ≤ (j : Int) := by omega
          have q5 : (j : Int) < (n0 : Int) := by omega
          have HO := Lib.hid (And.intro hkk hob)
          clear hkk hob
          by_cases hr : kk.tmod 5 = 0 ∨ kk.tmod 5 = 1
          · have hst : Hid (okB kd n1 s1 n0 (j + 1) = ob) := okB_yes HO.out.2 (by rw [← HO.out.1]; exact hr)
            rcases hr with hr | hr
            all_goals
              go_wp2
              go_round
              case rel => exact ⟨j + 1, by omega, by go_num, by rw [hst.out]⟩
              case measure => simp [intOf]; omega
          · have hst : Hid (okB kd n1 s1 n0 (j + 1) = false) := okB_no (by rw [← HO.out.1]; exact hr)
            have et : kk.tmod 5 = kk % 5 := Int.tmod_eq_emod_of_nonneg hkj.1
            have hr3 : ¬ kk % 5 = 0 := by omega
            have hr4 : ¬ kk % 5 = 1 := by omega
            have hr1 : (kk % 5 != 0) = true := by simp; omega
            have hr2 : (kk % 5 != 1) = true := by simp; omega
            clear et
            go_wp2
            go_round
            case rel => exact ⟨j + 1, by omega, by go_num, by rw [hst.out]⟩
            case measure => simp [intOf]; omega
        have hj2 : (n0 : Int) ≤ (j : Int) := by omega
        obtain rfl : j = n0 := by omega
        have hokf : okB kd n1 s1 j j = false := okB_none HKS.out HN.out
        rw [hokf]
        go_wp2
        go_ret
        exact ⟨rfl, K7.out⟩
      have HS := Lib.hid (And.intro hs hrd)
      clear hs hrd
      go_wp2_with fail
      go_loop [15, 16, 17] (fun ok i _ => ∃ j : Nat, j ≤ n0 ∧ i = .int .i64 j ∧ ok = .bool (okB kd n1 s1 n0 j)) (fun _ i _ => n0 - (intOf i).toNat)
      case atStart =>
        refine ⟨0, Nat.zero_le _, rfl, ?_⟩
        simp [okB]
      case round =>
      obtain ⟨j, hj, rfl, rfl⟩ := hrel
      by_cases hlt : j < n0
      · obtain ⟨xb, xo, rfl, hc0⟩ := RK7.out.at hlt
        have hkj := HKD.out j hlt
        obtain ⟨kk, hkk⟩ : ∃ kk, kk = kd j := ⟨_, rfl⟩
        obtain ⟨ob, hob⟩ : ∃ ob, ob = okB kd n1 s1 n0 j := ⟨_, rfl⟩
        rw [← hkk] at hc0 hkj
        rw [← hob]
        have q4 : (0 : Int) ≤ (j : Int) := by omega
        have q5 : (j : Int) < (n0 : Int) := by omega
        have HO := Lib.hid (And.intro hkk hob)
        clear hkk hob
        by_cases hr : kk.tmod 5 = 0 ∨ kk.tmod 5 = 1
        · have hst : Hid (okB kd n1 s1 n0 (j + 1) = ob) := okB_yes HO.out.2 (by rw [← HO.out.1]; exact hr)
          rcases hr with hr | hr
          all_goals
            go_wp2
            go_round
            case rel => exact ⟨j + 1, by omega, by go_num, by rw [hst.out]⟩
            case measure => simp [intOf]; omega
        · have hst : Hid (okB kd n1 s1 n0 (j + 1) = false) := okB_no (by rw [← HO.out.1]; exact hr)
          have et : kk.tmod 5 = kk % 5 := Int.tmod_eq_emod_of_nonneg hkj.1
          have hr3 : ¬ kk % 5 = 0 := by omega
          have hr4 : ¬ kk % 5 = 1 := by omega
          have hr1 : (kk % 5 != 0) = true := by simp; omega
          have hr2 : (kk % 5 != 1) = true := by simp; omega
          clear et
          go_wp2
          go_round
          case rel => exact ⟨j + 1, by omega, by go_num, by rw [hst.out]⟩
          case measure => simp [intOf]; omega
      have hj2 : (n0 : Int) ≤ (j : Int) := by omega
      obtain rfl : j = n0 := by omega
      have hokt : okB kd n1 s1 j j = true := okB_some HKS.out HS.out.1
      rw [hokt]
      have hn0 : 0 < j := by
        have := hokt
        simp [okB] at this
        exact this.1
      have hks := HKS.out.2 hn0
      have hss : ss.length = j := by rw [allSome_len HS.out.1, hks]; simp [pkL]
      obtain ⟨M, hM⟩ : ∃ M, M = n2 + ss.length := ⟨_, rfl⟩
      have hM2 : M = n2 + j := by rw [hM, hss]
      have hrd := HS.out.2
      have hsm : allSome (pkL kd n1 s1 j) = some ss := by rw [← hks]; exact HS.out.1
      rw [← hM] at hrd ⊢
      have f1 : ∀ k, k < n2 → ((List.range n2).map s2 ++ ss).getD k ⟨#[]⟩ = s2 k := fun k hk => by
        rw [List.getD_eq_getElem?_getD, List.getElem?_append_left (by simpa using hk)]; simp [hk]
      have f3 : ∀ k, k < j → pkA kd n1 s1 k = some (((List.range n2).map s2 ++ ss).getD (n2 + k) ⟨#[]⟩) := fun k hk => by
        rw [List.getD_eq_getElem?_getD, List.getElem?_append_right (by simp), show n2 + k - ((List.range n2).map s2).length = k by simp, ← List.getD_eq_getElem?_getD]
        exact allSome_at hsm k hk
      have HR := Lib.hid (And.intro hrd (And.intro f1 f3))
      have q0 : ((M : Int) != (n2 : Int) + (j : Int)) = false := by simp; omega
      have HM := Lib.hid hM2
      have hm9 : M ≤ 1048576 := by omega
      clear hrd f1 f3 hM hM2 hss hsm hks hokt HS hlt hj hj2
      go_wp2_with fail
      go_loopw [18] (fun i wr => ∃ k r : Nat, k ≤ n2 ∧ i = .int .i64 k ∧ wr = w7.drewN r) (fun i _ => n2 - (intOf i).toNat)
      case atStart => exact ⟨0, 0, Nat.zero_le _, rfl, rfl⟩
      case round =>
      obtain ⟨k, r, hk, rfl, rfl⟩ := hrel
      by_cases hlt : k < n2
      · have hx := rd_at0 HR.out.1 (k := k) (by have := HM.out; omega)
        obtain ⟨yb, yo, rfl, hy⟩ := RX7.out.at hlt
        rw [HR.out.2.1 k hlt] at hx
        obtain ⟨x, hxx⟩ : ∃ x, x = s2 k := ⟨_, rfl⟩
        rw [← hxx] at hx hy
        have q4 : (0 : Int) ≤ (k : Int) := by omega
        have q5 : (k : Int) < (n2 : Int) := by omega
        have q6 : (k : Int) < (M : Int) := by have := HM.out; omega
        have q7 := beq_yes x
        clear hxx
        go_wp2_with fail
        go_quiet (fail)
        go_wp2
        go_roundw
        case rel => first | exact ⟨k + 1, _, by omega, by go_num, rfl⟩ | ((repeat apply Exists.intro); refine ⟨?_, rfl⟩; exact ⟨k + 1, _, by omega, by go_num, rfl⟩)
        case measure => simp [intOf]; omega
      obtain rfl : n2 = k := by omega
      have hk2 : (n2 : Int) ≤ (n2 : Int) := by omega
      have kd7 := kept_drewN w7 r
      have RY := Lib.hid (HR.out.1.kept kd7)
      have RNY := Lib.hid (RN7.out.kept kd7)
      have RKY := Lib.hid (RK7.out.kept kd7)
      have KY := Lib.hid (K7.out.trans kd7)
      clear hlt hk kd7 RX7 RN7 RK7 K7
      revert RY RNY RKY KY
      generalize w7.drewN r = Y
      intro RY RNY RKY KY
      go_wp2_with fail
      clear hk2
      go_loop [19, 20] (fun i _ => ∃ k : Nat, k ≤ j ∧ i = .int .i64 k) (fun i _ => j - (intOf i).toNat)
      case atStart => exact ⟨0, Nat.zero_le _, rfl⟩
      case round =>
      obtain ⟨k, hk, rfl⟩ := hrel
      by_cases hlt : k < j
      · obtain ⟨P, hP⟩ : ∃ P, P = n2 + k := ⟨_, rfl⟩
        have hx := rd_at0 RY.out (k := P) (by have := HM.out; omega)
        obtain ⟨zb, zo, rfl, hz⟩ := RKY.out.at hlt
        have hkj := HKD.out k hlt
        have hpk := HR.out.2.2 k hlt
        rw [← hP] at hpk
        obtain ⟨y, hy⟩ : ∃ y, y = ((List.range n2).map s2 ++ ss).getD P ⟨#[]⟩ := ⟨_, rfl⟩
        rw [← hy] at hpk hx
        obtain ⟨kk, hkk⟩ : ∃ kk, kk = kd k := ⟨_, rfl⟩
        unfold pkA at hpk
        rw [← hkk] at hz hkj hpk
        obtain ⟨x, hxx⟩ : ∃ x, x = tx n1 s1 k := ⟨_, rfl⟩
        rw [← hxx] at hpk
        have q4 : (0 : Int) ≤ (k : Int) := by omega
        have q5 : (k : Int) < (j : Int) := by omega
        have q6 : (P : Int) < (M : Int) := by have := HM.out; omega
        have q8 : (0 : Int) ≤ (P : Int) := by omega
        have q9 : (n2 : Int) + (k : Int) = (P : Int) := by omega
        have HX := Lib.hid hxx
        have HPK := Lib.hid hpk
        clear hP hy hkk hxx hpk
        go_wp2_with fail
        refine (zzTextAt_any x1 n1 xc1 s1 k Y RNY.out (by omega) (by omega)).mono ?_
        rintro e w8 ⟨rfl, rfl⟩
        rw [← HX.out]
        by_cases hr : kk.tmod 5 = 0
        · cases he : x.toList.isEmpty with
          | true =>
            have hy : y = ⟨#[107]⟩ := by
              have := HPK.out
              unfold pk at this
              rw [if_pos hr, he] at this
              simpa using this.symm
            subst hy
            go_wp2
            go_round
            case rel => exact ⟨k + 1, by omega, by go_num⟩
            case measure => simp [intOf]; omega
          | false =>
            have hy : y = x := by
              have := HPK.out
              unfold pk at this
              rw [if_pos hr, he] at this
              simpa using this.symm
            subst hy
            have q7 := beq_yes y
            go_wp2
            go_round
            case rel => exact ⟨k + 1, by omega, by go_num⟩
            case measure => simp [intOf]; omega
        · have hr0 : (kk.tmod 5 == 0) = false := by simpa using hr
          have hr3 : ¬ kk % 5 = 0 := by have et : kk.tmod 5 = kk % 5 := Int.tmod_eq_emod_of_nonneg hkj.1; omega
          have hy : y = x := by
            have := HPK.out
            unfold pk at this
            rw [if_neg hr] at this
            split at this
            · simpa using this.symm
            · cases this
          subst hy
          have q7 := beq_yes y
          go_wp2
          go_round
          case rel => exact ⟨k + 1, by omega, by go_num⟩
          case measure => simp [intOf]; omega
      have hk3 : (j : Int) ≤ (k : Int) := by omega
      go_wp2
      go_ret
      exact ⟨rfl, KY.out⟩
end Go.Proofs.YtelbnidpchemiaaGreatDoor
