/- The walk of FnTermToIndicesSpec. -/
import Derived.Test.YtdlmdmpkjhnbmaaGreatDoorSfx
namespace Go.Proofs.YtdlmdmpkjhnbmaaGreatDoor
open Go.RowKit Go.Gq
set_option maxRecDepth 100000
def BytesAns (head : ByteArray) (n1 n2 : Nat) (w : World) (e : Ending) (w' : World) : Prop := ∃ b, e = .returned (.bool b) ∧ (b = true → head.size ≤ 1048576 ∧ n1 ≤ 1048576 ∧ n2 ≤ 1048576) ∧ w = w'
theorem IdxIs.up {B B' : Nat} {w w' : World} {i : Nat} {o : Option ByteArray} (h : IdxIs B w i o) (k : Below B w w') (hB : B ≤ B') : IdxIs B' w' i o := by
  obtain ⟨hi, h⟩ := h.below k
  refine ⟨by omega, ?_⟩
  rcases h with h | ⟨h0, q, s, qa, ql, qc, hq, h1⟩
  · exact .inl h
  · exact .inr ⟨h0, q, s, qa, ql, qc, by omega, h1⟩
theorem SufIs.up {B B' : Nat} {w w' : World} {b : Nat} {o : Option ByteArray} (h : SufIs B w b o) (k : Below B w w') (hB : B ≤ B') : SufIs B' w' b o := by
  obtain ⟨hb, h⟩ := h.below k
  refine ⟨by omega, ?_⟩
  rcases h with h | ⟨i, h1, h2⟩
  · exact .inl h
  · exact .inr ⟨i, h1, h2.up (Below.refl _ _) hB⟩
set_option maxHeartbeats 1000000 in
theorem zzBytes_FnTermToIndicesSpec_any (head : ByteArray) (a1 : Option Addr) (n1 c1 : Nat) (s1 : Nat → ByteArray) (a2 : Option Addr) (n2 c2 : Nat) (s2 : Nat → ByteArray) (w : World) (h1 : Rd w a1 n1 (fun i => .string (s1 i))) (h2 : Rd w a2 n2 (fun i => .string (s2 i))) (m0 : head.size ≤ 9223372036854775807) (m1 : n1 ≤ 9223372036854775807) (m2 : n2 ≤ 9223372036854775807) (k1 : ∀ i, i < n1 → (s1 i).size ≤ 9223372036854775807) (k2 : ∀ i, i < n2 → (s2 i).size ≤ 9223372036854775807) :
    Calls Tryz.prog 25 #[.string head, .slice a1 n1 c1, .slice a2 n2 c2] w (BytesAns head n1 n2 w) := by
  have H1 := Lib.hid h1
  have H2 := Lib.hid h2
  have H1S := Lib.hid k1
  have H2S := Lib.hid k2
  clear h1 h2 k1 k2
  by_cases g0 : head.size ≤ 1048576
  rotate_left
  · go_enter Tryz.func25, Tryz.ntmps25
    go_wp2
    go_ret
    exact ⟨false, rfl, (fun h => by cases h), rfl⟩
  by_cases g1 : n1 ≤ 1048576
  rotate_left
  · go_enter Tryz.func25, Tryz.ntmps25
    go_wp2
    go_ret
    exact ⟨false, rfl, (fun h => by cases h), rfl⟩
  by_cases g2 : (head.size : Int) + (n1 : Int) ≤ 1048576
  rotate_left
  · go_enter Tryz.func25, Tryz.ntmps25
    go_wp2
    go_ret
    exact ⟨false, rfl, (fun h => by cases h), rfl⟩
  go_enter Tryz.func25, Tryz.ntmps25
  go_wp2
  go_loop [7, 8] (fun t i => ∃ (k : Nat) (z : Int), k ≤ n1 ∧ i = .int .i64 k ∧ t = .int .i64 z ∧ 0 ≤ z ∧ z ≤ 1048576) (fun _ i => n1 - (intOf i).toNat)
  case atStart => exact ⟨0, _, Nat.zero_le _, rfl, rfl, by omega, by omega⟩
  case round =>
    obtain ⟨k, z, hk, rfl, rfl, hz0, hz1⟩ := hrel
    by_cases hlt : k < n1
    · obtain ⟨b, off, e1, hc⟩ := H1.out.at hlt
      subst e1
      obtain ⟨x, hx⟩ : ∃ x, x = s1 k := ⟨_, rfl⟩
      have hsz : x.size ≤ 9223372036854775807 := by rw [hx]; exact H1S.out k hlt
      rw [← hx] at hc
      clear hx
      by_cases q1 : x.size ≤ 1048576
      rotate_left
      · go_wp2
        go_ret
        exact ⟨false, rfl, (fun h => by cases h), rfl⟩
      by_cases q2 : z + x.size ≤ 1048576
      rotate_left
      · go_wp2
        go_ret
        exact ⟨false, rfl, (fun h => by cases h), rfl⟩
      go_wp2
      go_round
      case rel => exact ⟨k + 1, z + x.size, by omega, by go_num, rfl, by omega, by omega⟩
      case measure => simp [intOf]; omega
    have hk2 : (n1 : Int) ≤ (k : Int) := by omega
    by_cases q3 : n2 ≤ 1048576
    rotate_left
    · go_wp2
      go_ret
      exact ⟨false, rfl, (fun h => by cases h), rfl⟩
    by_cases q4 : z + n2 ≤ 1048576
    rotate_left
    · go_wp2
      go_ret
      exact ⟨false, rfl, (fun h => by cases h), rfl⟩
    go_wp2
    clear hlt hk hk2
    go_loop [7, 9] (fun t i => ∃ (k : Nat) (z : Int), k ≤ n2 ∧ i = .int .i64 k ∧ t = .int .i64 z ∧ 0 ≤ z ∧ z ≤ 1048576) (fun _ i => n2 - (intOf i).toNat)
    case atStart => exact ⟨0, _, Nat.zero_le _, rfl, rfl, by omega, by omega⟩
    case round =>
      obtain ⟨k, z2, hk, rfl, rfl, hz0, hz1⟩ := hrel
      by_cases hlt : k < n2
      · obtain ⟨b, off, e1, hc⟩ := H2.out.at hlt
        subst e1
        obtain ⟨x, hx⟩ : ∃ x, x = s2 k := ⟨_, rfl⟩
        have hsz : x.size ≤ 9223372036854775807 := by rw [hx]; exact H2S.out k hlt
        rw [← hx] at hc
        clear hx
        by_cases q1 : x.size ≤ 1048576
        rotate_left
        · go_wp2
          go_ret
          exact ⟨false, rfl, (fun h => by cases h), rfl⟩
        by_cases q2 : z2 + x.size ≤ 1048576
        rotate_left
        · go_wp2
          go_ret
          exact ⟨false, rfl, (fun h => by cases h), rfl⟩
        go_wp2
        go_round
        case rel => exact ⟨k + 1, z2 + x.size, by omega, by go_num, rfl, by omega, by omega⟩
        case measure => simp [intOf]; omega
      have hk2 : (n2 : Int) ≤ (k : Int) := by omega
      go_wp2
      go_ret
      exact ⟨true, rfl, (fun _ => ⟨g0, g1, q3⟩), rfl⟩
set_option maxHeartbeats 8000000 in
theorem FnTermToIndicesSpec_walk (head : ByteArray) (a1 : Option Addr) (n1 c1 : Nat) (s1 : Nat → ByteArray) (a2 : Option Addr) (n2 c2 : Nat) (s2 : Nat → ByteArray) (w : World) (h1 : Rd w a1 n1 (fun i => .string (s1 i))) (h2 : Rd w a2 n2 (fun i => .string (s2 i))) (m0 : head.size ≤ 9223372036854775807) (m1 : n1 ≤ 9223372036854775807) (m2 : n2 ≤ 9223372036854775807) (k1 : ∀ i, i < n1 → (s1 i).size ≤ 9223372036854775807) (k2 : ∀ i, i < n2 → (s2 i).size ≤ 9223372036854775807) :
    Calls Tryz.prog 8 #[.string head, .slice a1 n1 c1, .slice a2 n2 c2] w (TrueKept w) := by
  have H1 := Lib.hid h1
  have H2 := Lib.hid h2
  have HZ := (zzBytes_FnTermToIndicesSpec_any head a1 n1 c1 s1 a2 n2 c2 s2 w h1 h2 m0 m1 m2 k1 k2)
  clear h1 h2 k1 k2
  go_enter Tryz.func8, Tryz.ntmps8
  go_wp2_with fail
  refine HZ.mono ?_
  rintro e w1 ⟨b, rfl, hb, rfl⟩
  clear HZ
  cases b with
  | false =>
    go_wp2
    go_ret
    exact ⟨rfl, Below.refl _ _⟩
  | true =>
  obtain ⟨l0, l1, l2⟩ := hb rfl
  clear hb
  go_wp2_with fail
  refine (zzStringsBytes_any a1 n1 c1 s1 w H1.out m1).mono ?_
  rintro e w1 ⟨t1, rfl, rfl⟩
  go_wp2_with fail
  refine (zzStringsBytes_any a2 n2 c2 s2 w H2.out m2).mono ?_
  rintro e w1 ⟨t2, rfl, rfl⟩
  by_cases g2 : (1048576 : Int) < wrap64 (wrap64 ((head.size : Int) + t1) + t2)
  · go_wp2
    go_ret
    exact ⟨rfl, Below.refl _ _⟩
  go_wp2_with fail
  clear g2
  refine (zzClone_rd a1 n1 c1 s1 w l1 H1.out).mono ?_
  rintro e w1 ⟨v, vc, rfl, hr, hk1⟩
  have RV1 := Lib.hid hr
  have K1 := Lib.hid hk1
  clear hr hk1
  go_wp2_with fail
  refine (zzClone_rd a2 n2 c2 s2 w1 l2 (H2.out.kept K1.out)).mono ?_
  rintro e w2 ⟨u, uc, rfl, hr, hk2⟩
  have RU := Lib.hid hr
  have RV := Lib.hid (RV1.out.kept hk2)
  have K2 := Lib.hid (K1.out.trans hk2)
  clear hr hk2 RV1
  go_wp2_with fail
  obtain ⟨W1, hW⟩ : ∃ W : World, W = (w2.alloc (.cells #[.string head, ns] 67)).alloc (.cells #[.string ⟨#[]⟩, bq w2.heap.size, np, np, .bool false] 71) := ⟨_, rfl⟩
  obtain ⟨e1, e2, hk⟩ := two_new _ _ _ _ _ _ hW
  have hz : W1.heap.size = w2.heap.size + 1 + 1 := by rw [hW]; simp
  have HI : Hid (IdxIs W1.heap.size W1 (w2.heap.size + 1) (some head)) := ⟨by omega, .inr ⟨e2 0 _ rfl, w2.heap.size, head, none, 0, 0, by omega, e2 1 _ rfl, e1 0 _ rfl, e1 1 _ rfl, rfl⟩⟩
  rw [← hW]
  have HW := Lib.hid hk
  clear e1 e2 hk hz hW
  refine (zzSuffixes_any v n1 vc s1 W1 (RV.out.kept HW.out) l1).mono ?_
  rintro e w3 ⟨g, cap, sb, rfl, hg, hrd, hsf, hk3⟩
  have HS := Lib.hid (And.intro hrd hsf)
  have HI3 := Lib.hid (HI.out.up hk3 hk3.size)
  have K3 := Lib.hid (K2.out.trans (HW.out.trans hk3))
  have RV3 := Lib.hid ((RV.out.kept HW.out).kept hk3)
  have RU3 := Lib.hid ((RU.out.kept HW.out).kept hk3)
  have HG := Lib.hid hg
  clear hrd hsf hk3 HI HW hg
  go_wp2_with fail
  obtain ⟨W4, hW⟩ : ∃ W : World, W = w3.alloc (.cells (termC 6 (bq (w2.heap.size + 1)) ⟨#[]⟩ np np np (.slice (some ⟨g, 0, none⟩) n1 cap)) 58) := ⟨_, rfl⟩
  have hk4 : Kept w3 W4 := by rw [hW]; exact kept_alloc _ _
  have hz4 : W4.heap.size = w3.heap.size + 1 := by rw [hW]; simp
  have hc : ∀ k v, (termC 6 (bq (w2.heap.size + 1)) ⟨#[]⟩ np np np (.slice (some ⟨g, 0, none⟩) n1 cap))[k]? = some v → W4.cell? ⟨w3.heap.size, k, none⟩ = some v := fun k v h => by rw [hW]; exact cell_new _ _ _ k _ h
  have hT : Hid (TermIx W4.heap.size W4 w3.heap.size ([some head] ++ kzs n1 s1)) := term_index W4.heap.size w3.heap.size (w2.heap.size + 1) (some ⟨g, 0, none⟩) n1 cap (fun j => kz (s1 j)) sb (some head) W4 (by omega) (hc 0 _ rfl) (hc 1 _ rfl) (HI3.out.up hk4 hk4.size) (hc 16 _ rfl) (HS.out.1.kept hk4) (fun x e => by injection e with e; subst e; have := HG.out; simp only; omega) (fun j hj => (HS.out.2 j hj).up hk4 hk4.size)
  rw [← hW]
  have HW4 := Lib.hid hk4
  clear hW hk4 hc hz4
  have hkl : ([some head] ++ kzs n1 s1).length ≤ 3145728 := by simp [kzs]; omega
  refine (ZZtermToIndices_any w3.heap.size _ u n2 uc s2 W4 hT.out (RU3.out.kept HW4.out) l2 hkl).mono ?_
  rintro e w5 ⟨hk5, hr⟩
  have K5 := Lib.hid (K3.out.trans (HW4.out.trans hk5))
  have RV5 := Lib.hid ((RV3.out.kept HW4.out).kept hk5)
  have RU5 := Lib.hid ((RU3.out.kept HW4.out).kept hk5)
  clear hk5 hkl
  rcases hr with ⟨hn, rfl⟩ | ⟨ss, a, c, hs, rfl, hrd⟩
  · have HN := Lib.hid hn
    clear hn
    go_wp2_with fail
    refine (zzRefused_any v n1 vc s1 w5 RV5.out (by omega)).mono ?_
    rintro e w6 ⟨rfl, h6⟩
    rcases h6 with ⟨rfl, h6⟩ | ⟨rfl, h6⟩
    · clear h6
      go_wp2
      go_ret
      exact ⟨rfl, K5.out⟩
    · have := allSome_app (a := [some head]) (x := [head]) rfl h6
      rw [HN.out] at this
      cases this
  have HS5 := Lib.hid (And.intro hs hrd)
  clear hs hrd
  go_wp2_with fail
  refine (zzRefused_any v n1 vc s1 w5 RV5.out (by omega)).mono ?_
  rintro e w6 ⟨rfl, h6⟩
  rcases h6 with ⟨rfl, h6⟩ | ⟨rfl, h6⟩
  · have := allSome_app_none [some head] h6
    rw [HS5.out.1] at this
    cases this
  have hss : ss = head :: (List.range n1).map s1 := by
    have := allSome_app (a := [some head]) (x := [head]) rfl h6
    rw [HS5.out.1] at this
    injection this with this
  obtain ⟨M, hM⟩ : ∃ M, M = n2 + ss.length := ⟨_, rfl⟩
  have hM2 : M = n2 + 1 + n1 := by rw [hM, hss]; simp; omega
  have hrd := HS5.out.2
  rw [← hM] at hrd ⊢
  have f1 : ∀ k, k < n2 → ((List.range n2).map s2 ++ ss).getD k ⟨#[]⟩ = s2 k := fun k hk => by
    rw [List.getD_eq_getElem?_getD, List.getElem?_append_left (by simpa using hk)]; simp [hk]
  have f2 : ((List.range n2).map s2 ++ ss).getD n2 ⟨#[]⟩ = head := by
    rw [List.getD_eq_getElem?_getD, List.getElem?_append_right (by simp), hss]; simp
  have f3 : ∀ k, k < n1 → ((List.range n2).map s2 ++ ss).getD (n2 + 1 + k) ⟨#[]⟩ = s1 k := fun k hk => by
    rw [List.getD_eq_getElem?_getD, List.getElem?_append_right (by simp; omega), hss, show n2 + 1 + k - ((List.range n2).map s2).length = k + 1 by simp; omega]; simp [hk]
  have HR := Lib.hid (And.intro hrd (And.intro f1 (And.intro f2 f3)))
  have q0 : ((M : Int) != (n2 : Int) + 1 + (n1 : Int)) = false := by simp; omega
  have q1 : (n2 : Int) < (M : Int) := by omega
  have q2 := beq_yes head
  have HM := Lib.hid hM2
  clear hrd f1 f2 f3 hM hM2 hss h6 HS5 HS HI3 hT
  go_wp2_with fail
  go_loopw [11] (fun i wr => ∃ k r : Nat, k ≤ n2 ∧ i = .int .i64 k ∧ wr = w5.drewN r) (fun i _ => n2 - (intOf i).toNat)
  case atStart => exact ⟨0, 0, Nat.zero_le _, rfl, rfl⟩
  case round =>
  obtain ⟨k, r, hk, rfl, rfl⟩ := hrel
  by_cases hlt : k < n2
  · obtain ⟨xb, xo, e1, hx⟩ := HR.out.1.at (k := k) (by have := HM.out; omega)
    obtain ⟨yb, yo, rfl, hy⟩ := RU5.out.at hlt
    rw [HR.out.2.1 k hlt] at hx
    injection e1 with e1
    subst e1
    obtain ⟨x, hxx⟩ : ∃ x, x = s2 k := ⟨_, rfl⟩
    rw [← hxx] at hx hy
    have q4 : (0 : Int) ≤ (k : Int) := by omega
    have q5 : (k : Int) < (n2 : Int) := by omega
    have q6 : (k : Int) < (M : Int) := by omega
    have q7 := beq_yes x
    clear hxx
    go_wp2_with fail
    go_quiet (fail)
    go_wp2
    go_roundw
    case rel => first | exact ⟨k + 1, _, by omega, by go_num, rfl⟩ | ((repeat apply Exists.intro); refine ⟨?_, rfl⟩; exact ⟨k + 1, _, by omega, by go_num, rfl⟩)
    case measure => simp [intOf]; omega
  obtain rfl : n2 = k := by omega
  have hk2 : (n2 : Int) ≤ (n2 : Int) := by omega
  have hkd := kept_drewN w5 r
  have RY := Lib.hid (HR.out.1.kept hkd)
  have RVY := Lib.hid (RV5.out.kept hkd)
  have KY := Lib.hid (K5.out.trans hkd)
  obtain ⟨xb, xo, e1, hx⟩ := RY.out.at (k := n2) (by have := HM.out; omega)
  rw [HR.out.2.2.1] at hx
  injection e1 with e1
  subst e1
  clear hlt hk hkd RV5 RU5 K5
  have HH := And.intro RY.out (And.intro RVY.out (And.intro KY.out hx))
  clear RY RVY KY hx
  revert HH
  generalize w5.drewN r = Y
  intro HH
  have RY := Lib.hid HH.1
  have RVY := Lib.hid HH.2.1
  have KY := Lib.hid HH.2.2.1
  have hx := HH.2.2.2
  clear HH
  have q3 : (0 : Int) ≤ (n2 : Int) := by omega
  go_wp2_with fail
  clear hx hk2
  go_loopw [12] (fun i wr => ∃ k r : Nat, k ≤ n1 ∧ i = .int .i64 k ∧ wr = Y.drewN r) (fun i _ => n1 - (intOf i).toNat)
  case atStart => exact ⟨0, 0, Nat.zero_le _, rfl, rfl⟩
  case round =>
  obtain ⟨k, r, hk, rfl, rfl⟩ := hrel
  by_cases hlt : k < n1
  · obtain ⟨P, hP⟩ : ∃ P, P = n2 + 1 + k := ⟨_, rfl⟩
    obtain ⟨xb2, xo2, e1, hx⟩ := RY.out.at (k := P) (by have := HM.out; omega)
    injection e1 with e1
    injection e1 with e1 e2
    subst e1 e2
    obtain ⟨yb, yo, rfl, hy⟩ := RVY.out.at hlt
    rw [hP, HR.out.2.2.2 k hlt, ← hP] at hx
    obtain ⟨x, hxx⟩ : ∃ x, x = s1 k := ⟨_, rfl⟩
    rw [← hxx] at hx hy
    have q4 : (0 : Int) ≤ (k : Int) := by omega
    have q5 : (k : Int) < (n1 : Int) := by omega
    have q6 : (P : Int) < (M : Int) := by have := HM.out; omega
    have q8 : (0 : Int) ≤ (P : Int) := by omega
    have q9 : (n2 : Int) + 1 + (k : Int) = (P : Int) := by omega
    have q7 := beq_yes x
    clear hxx hP
    go_wp2_with fail
    go_quiet (fail)
    go_wp2
    go_roundw
    case rel => first | exact ⟨k + 1, _, by omega, by go_num, rfl⟩ | ((repeat apply Exists.intro); refine ⟨?_, rfl⟩; exact ⟨k + 1, _, by omega, by go_num, rfl⟩)
    case measure => simp [intOf]; omega
  have hk3 : (n1 : Int) ≤ (k : Int) := by omega
  go_wp2
  go_ret
  exact ⟨rfl, KY.out.trans (kept_drewN _ _)⟩
end Go.Proofs.YtdlmdmpkjhnbmaaGreatDoor
