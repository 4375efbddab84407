/- toIndices of a Term and of a Query: a head, then suffixes. -/
import Derived.Test.YticjhbklcpoonaaGreatDoorTix
namespace Go.Proofs.YticjhbklcpoonaaGreatDoor
open Go.RowKit Go.Gq
set_option maxRecDepth 100000
/-- All keys, where each is there. -/
def allSome : List (Option ByteArray) → Option (List ByteArray)
  | [] => some []
  | none :: _ => none
  | some x :: r => (allSome r).map (x :: ·)
theorem allSome_map : ∀ {ks : List (Option ByteArray)} {ss : List ByteArray}, ks = ss.map some → allSome ks = some ss
  | _, [], h => by subst h; rfl
  | _, x :: r, h => by
    subst h
    simp only [List.map_cons, allSome, allSome_map (ss := r) rfl, Option.map_some]
theorem allSome_none : ∀ (ks : List (Option ByteArray)), none ∈ ks → allSome ks = none
  | [], h => by cases h
  | none :: _, _ => rfl
  | some x :: r, h => by
    simp only [List.mem_cons, reduceCtorEq, false_or] at h
    simp only [allSome, allSome_none r h, Option.map_none]
theorem allSome_app_none : ∀ (a : List (Option ByteArray)) {b : List (Option ByteArray)}, allSome b = none → allSome (a ++ b) = none
  | [], _, h => h
  | none :: _, _, _ => rfl
  | some x :: r, _, h => by
    simp only [List.cons_append, allSome, allSome_app_none r h, Option.map_none]
theorem allSome_none_app : ∀ {a : List (Option ByteArray)} (b : List (Option ByteArray)), allSome a = none → allSome (a ++ b) = none
  | [], _, h => by cases h
  | none :: _, _, _ => rfl
  | some x :: r, b, h => by
    have h' : allSome r = none := by
      cases hr : allSome r with
      | none => rfl
      | some y => simp [allSome, hr] at h
    simp only [List.cons_append, allSome, allSome_none_app b h', Option.map_none]
theorem allSome_app : ∀ {a b : List (Option ByteArray)} {x y : List ByteArray}, allSome a = some x → allSome b = some y → allSome (a ++ b) = some (x ++ y)
  | [], _, _, _, h, k => by cases h; exact k
  | none :: _, _, _, _, h, _ => by cases h
  | some z :: r, b, x, y, h, k => by
    cases hr : allSome r with
    | none => simp [allSome, hr] at h
    | some x' =>
      simp only [allSome, hr, Option.map_some, Option.some.injEq] at h
      subst h
      simp only [List.cons_append, allSome, allSome_app hr k, Option.map_some]
theorem allSome_len : ∀ {ks : List (Option ByteArray)} {ss : List ByteArray}, allSome ks = some ss → ss.length = ks.length
  | [], _, h => by cases h; rfl
  | none :: _, _, h => by cases h
  | some x :: r, ss, h => by
    cases hr : allSome r with
    | none => simp [allSome, hr] at h
    | some x' =>
      simp only [allSome, hr, Option.map_some, Option.some.injEq] at h
      subst h
      simp [allSome_len hr]
theorem rd_below {B : Nat} {w w' : World} {a : Option Addr} {n : Nat} {f : Nat → Value} (h : Rd w a n f) (ha : ∀ x, a = some x → x.block < B) (k : Below B w w') : Rd w' a n f := by
  rcases h with h | ⟨b, off, rfl, h⟩
  · exact .inl h
  · exact .inr ⟨b, off, rfl, fun i hi => below_cell k (a := ⟨b, off + i, none⟩) (ha ⟨b, off, none⟩ rfl) (h i hi)⟩
/-- What toIndices answers: none where a key is not there; else the list and the keys. -/
def TixAns (B : Nat) (xs : List Value) (ks : List (Option ByteArray)) (w : World) (e : Ending) (w' : World) : Prop :=
  Below B w w' ∧ ((allSome ks = none ∧ e = .returned (.slice none 0 0)) ∨ ∃ (ss : List ByteArray) (g cap : Nat), allSome ks = some ss ∧ e = .returned (.slice (some ⟨g, 0, none⟩) (xs.length + ss.length) cap) ∧
    w'.ownsRow B 20 1 (.slice (some ⟨g, 0, none⟩) (xs.length + ss.length) cap) (xs.length + ss.length) (xs ++ ss.map sv))
/-- A Term that is the path ks: whatever list it is handed. -/
def TermIx (B : Nat) (w : World) (t : Nat) (ks : List (Option ByteArray)) : Prop :=
  ∀ (w1 : World) (v : Value) (xs : List Value), Below B w w1 → w1.ownsRow B 20 1 v xs.length xs → xs.length + ks.length ≤ 4194304 → B ≤ w1.heap.size → Calls Tryz.prog 70 #[bq t, v] w1 (TixAns B xs ks w1)
def QueryIx (B : Nat) (w : World) (q : Nat) (ks : List (Option ByteArray)) : Prop :=
  ∀ (w1 : World) (v : Value) (xs : List Value), Below B w w1 → w1.ownsRow B 20 1 v xs.length xs → xs.length + ks.length ≤ 4194304 → B ≤ w1.heap.size → Calls Tryz.prog 55 #[bq q, v] w1 (TixAns B xs ks w1)
theorem TermIx.below {B : Nat} {w w' : World} {t : Nat} {ks : List (Option ByteArray)} (h : TermIx B w t ks) (k : Below B w w') : TermIx B w' t ks := fun w1 v xs hb => h w1 v xs (k.trans hb)
theorem QueryIx.below {B : Nat} {w w' : World} {t : Nat} {ks : List (Option ByteArray)} (h : QueryIx B w t ks) (k : Below B w w') : QueryIx B w' t ks := fun w1 v xs hb => h w1 v xs (k.trans hb)
theorem ix_tix {B : Nat} {xs : List Value} {o : Option ByteArray} {w : World} {e : Ending} {w' : World} (h : IxAns B xs o w e w') : TixAns B xs [o] w e w' := by
  obtain ⟨hb, ⟨rfl, h2⟩ | ⟨s, g, cap, rfl, h2, h3⟩⟩ := h
  · exact ⟨hb, .inl ⟨rfl, h2⟩⟩
  · exact ⟨hb, .inr ⟨[s], g, cap, rfl, h2, h3⟩⟩
section
attribute [local go_sem] Lib.run_eql_slice_nil
set_option maxHeartbeats 2000000 in
theorem term_index (B t i : Nat) (sa : Option Addr) (m sc : Nat) (ko : Nat → Option ByteArray) (sb : Nat → Nat) (h : Option ByteArray) (w : World) (ht : t < B) (c0 : w.cell? ⟨t, 0, none⟩ = some (.int .i64 6)) (c1 : w.cell? ⟨t, 1, none⟩ = some (bq i)) (hi : IdxIs B w i h)
    (c16 : w.cell? ⟨t, 16, none⟩ = some (.slice sa m sc)) (hs : Rd w sa m (fun j => bq (sb j))) (hsb : ∀ x, sa = some x → x.block < B) (hk : ∀ j, j < m → SufIs B w (sb j) (ko j)) : TermIx B w t ([h] ++ (List.range m).map ko) := by
  intro w1 v xs hb hown hn hB
  have d0 := below_cell hb ht c0
  have d1 := below_cell hb ht c1
  have d16 := below_cell hb ht c16
  have HI := Lib.hid (hi.below hb)
  have HS : Hid (Rd w1 sa m (fun j => bq (sb j)) ∧ ∀ x, sa = some x → x.block < B) := ⟨rd_below hs hsb hb, hsb⟩
  have HK : Hid (∀ j, j < m → SufIs B w1 (sb j) (ko j)) := fun j hj => (hk j hj).below hb
  have Ho := Lib.hid hown
  have hn : Hid (xs.length + (1 + m) ≤ 4194304) := by
    have : xs.length + (1 + m) ≤ 4194304 := by simpa [Nat.add_comm 1 m] using hn
    exact this
  have hB : Hid (B ≤ w1.heap.size) := hB
  have hm : m ≤ 4194304 := by have := hn.out; omega
  clear c0 c1 c16 hi hs hsb hk hb hown
  go_enter Tryz.func70, Tryz.ntmps70
  go_wp2_with fail
  refine ((index_toIndices B i h v xs w1 HI.out Ho.out (by have := hn.out; omega) hB.out).mono fun e w' hh => ix_tix hh).mono ?_
  rintro e w2 ⟨hb2, hr⟩
  have hc16 := below_cell hb2 ht d16
  rcases hr with ⟨h3, rfl⟩ | ⟨ss0, g, cap, h3, rfl, h5⟩
  · have H3 := Lib.hid h3
    have HB2 := Lib.hid hb2
    clear h3 hb2
    go_wp2
    go_ret
    exact ⟨HB2.out, .inl ⟨allSome_none_app _ H3.out, rfl⟩⟩
  · have hl0 := allSome_len h3
    simp only [List.length_cons, List.length_nil] at hl0
    have hn : Hid (xs.length + (ss0.length + m) ≤ 4194304) := by have := hn.out; rw [hl0]; exact this
    have HA := Lib.hid h3
    have H2 := Lib.hid (And.intro hb2 h5)
    clear h3 hb2 h5 d0 d1 d16 hl0 Ho HI
    go_wp2_with fail
    go_loopw [1, 6, 36] (fun x _ i wr => ∃ (k g cap : Nat) (ss : List ByteArray), k ≤ m ∧ i = .int .i64 k ∧ x = .slice (some ⟨g, 0, none⟩) (xs.length + ss0.length + k) cap ∧ Hid (Below B w1 wr ∧ wr.ownsRow B 20 1 (.slice (some ⟨g, 0, none⟩) (xs.length + ss0.length + k) cap) (xs.length + ss0.length + k) (xs ++ (ss0 ++ ss).map sv) ∧ (List.range k).map ko = ss.map some ∧ ss.length = k)) (fun _ _ i _ => m - (intOf i).toNat)
    case atStart => exact ⟨0, g, cap, [], Nat.zero_le _, rfl, rfl, H2.out.1, by simpa using H2.out.2, rfl, rfl⟩
    case round =>
      obtain ⟨k, g, cap, ss, hk, rfl, rfl, HR⟩ := hrel
      by_cases hlt : k < m
      · obtain ⟨hb, ho, hks, hkl⟩ := HR.out
        obtain ⟨xb, xo, rfl, hc⟩ := (rd_below HS.out.1 HS.out.2 hb).at hlt
        have q4 : (0 : Int) ≤ (k : Int) := by omega
        have q5 : (k : Int) < (m : Int) := by omega
        have hlen : (xs ++ (ss0 ++ ss).map sv).length = xs.length + ss0.length + k := by simp [hkl]; omega
        have ho2 := ho
        rw [← hlen] at ho2
        have Hlen := Lib.hid hlen
        have hsz := hb.size
        have hcall := suffix_toIndices B (sb k) (ko k) _ _ wr ((HK.out k hlt).below hb) ho2 (by have := hn.out; rw [hlen]; omega) (by have := hB.out; omega)
        rw [hlen] at hcall
        have HC := Lib.hid (And.intro hks hkl)
        have HB := Lib.hid hb
        have Hcall := Lib.hid hcall
        clear hb ho ho2 hks hkl hlen hsz hcall HR
        go_wp2_with fail
        refine Hcall.out.mono ?_
        rintro e w3 ⟨hb3, h⟩
        have HB3 := Lib.hid (HB.out.trans hb3)
        clear hb3
        rcases h with ⟨h3, rfl⟩ | ⟨s3, g3, cap3, h3, rfl, h5⟩
        · have H3 := Lib.hid h3
          clear h3
          go_wp2
          go_ret
          exact ⟨HB3.out, .inl ⟨allSome_app_none [h] (allSome_none ((List.range m).map ko) (List.mem_map.2 ⟨k, List.mem_range.2 hlt, H3.out⟩)), rfl⟩⟩
        · have H5 := Lib.hid (And.intro h3 h5)
          clear h3 h5
          rw [Hlen.out] at H5 ⊢
          go_wp2
          go_roundw
          case rel =>
            refine ⟨k + 1, g3, cap3, ss ++ [s3], by omega, by go_num, by simp only [Nat.add_assoc], HB3.out, ?_, ?_, ?_⟩
            · have := H5.out.2
              rw [List.append_assoc, ← List.map_singleton (f := sv), ← List.map_append, List.append_assoc] at this
              exact this
            · rw [List.range_succ, List.map_append, HC.out.1, List.map_append, List.map_singleton, H5.out.1]; rfl
            · simp [HC.out.2]
          case measure => simp [intOf]; omega
      · have hk2 : (m : Int) ≤ (k : Int) := by omega
        obtain rfl : k = m := by omega
        go_wp2
        go_ret
        obtain ⟨hb, ho, hks, hkl⟩ := HR.out
        refine ⟨hb, .inr ⟨ss0 ++ ss, g, cap, allSome_app HA.out (allSome_map hks), ?_, ?_⟩⟩
        · simp [hkl, Nat.add_assoc]
        · have e : (ss0 ++ ss).length = ss0.length + k := by simp [hkl]
          rw [e, ← Nat.add_assoc]; exact ho
set_option maxHeartbeats 2000000 in
theorem term_query (B t q : Nat) (sa : Option Addr) (m sc : Nat) (ko : Nat → Option ByteArray) (sb : Nat → Nat) (ks : List (Option ByteArray)) (w : World) (ht : t < B) (c0 : w.cell? ⟨t, 0, none⟩ = some (.int .i64 20)) (c1 : w.cell? ⟨t, 15, none⟩ = some (bq q)) (hq : QueryIx B w q ks)
    (c16 : w.cell? ⟨t, 16, none⟩ = some (.slice sa m sc)) (hs : Rd w sa m (fun j => bq (sb j))) (hsb : ∀ x, sa = some x → x.block < B) (hk : ∀ j, j < m → SufIs B w (sb j) (ko j)) : TermIx B w t (ks ++ (List.range m).map ko) := by
  intro w1 v xs hb hown hn hB
  have d0 := below_cell hb ht c0
  have d1 := below_cell hb ht c1
  have d16 := below_cell hb ht c16
  have HQ := Lib.hid (hq.below hb)
  have HS : Hid (Rd w1 sa m (fun j => bq (sb j)) ∧ ∀ x, sa = some x → x.block < B) := ⟨rd_below hs hsb hb, hsb⟩
  have HK : Hid (∀ j, j < m → SufIs B w1 (sb j) (ko j)) := fun j hj => (hk j hj).below hb
  have Ho := Lib.hid hown
  have hn : Hid (xs.length + (ks.length + m) ≤ 4194304) := by
    have : xs.length + (ks.length + m) ≤ 4194304 := by simpa using hn
    exact this
  have hB : Hid (B ≤ w1.heap.size) := hB
  have hm : m ≤ 4194304 := by have := hn.out; omega
  clear c0 c1 c16 hq hs hsb hk hb hown
  go_enter Tryz.func70, Tryz.ntmps70
  go_wp2_with fail
  refine (HQ.out w1 v xs (Below.refl _ _) Ho.out (by have := hn.out; omega) hB.out).mono ?_
  rintro e w2 ⟨hb2, hr⟩
  have hc16 := below_cell hb2 ht d16
  rcases hr with ⟨h3, rfl⟩ | ⟨ss0, g, cap, h3, rfl, h5⟩
  · have H3 := Lib.hid h3
    have HB2 := Lib.hid hb2
    clear h3 hb2
    go_wp2
    go_ret
    exact ⟨HB2.out, .inl ⟨allSome_none_app _ H3.out, rfl⟩⟩
  · have hl0 := allSome_len h3
    have hn : Hid (xs.length + (ss0.length + m) ≤ 4194304) := by have := hn.out; rw [hl0]; exact this
    have HA := Lib.hid h3
    have H2 := Lib.hid (And.intro hb2 h5)
    clear h3 hb2 h5 d0 d1 d16 hl0 Ho HQ
    go_wp2_with fail
    go_loopw [1, 6, 36] (fun x _ i wr => ∃ (k g cap : Nat) (ss : List ByteArray), k ≤ m ∧ i = .int .i64 k ∧ x = .slice (some ⟨g, 0, none⟩) (xs.length + ss0.length + k) cap ∧ Hid (Below B w1 wr ∧ wr.ownsRow B 20 1 (.slice (some ⟨g, 0, none⟩) (xs.length + ss0.length + k) cap) (xs.length + ss0.length + k) (xs ++ (ss0 ++ ss).map sv) ∧ (List.range k).map ko = ss.map some ∧ ss.length = k)) (fun _ _ i _ => m - (intOf i).toNat)
    case atStart => exact ⟨0, g, cap, [], Nat.zero_le _, rfl, rfl, H2.out.1, by simpa using H2.out.2, rfl, rfl⟩
    case round =>
      obtain ⟨k, g, cap, ss, hk, rfl, rfl, HR⟩ := hrel
      by_cases hlt : k < m
      · obtain ⟨hb, ho, hks, hkl⟩ := HR.out
        obtain ⟨xb, xo, rfl, hc⟩ := (rd_below HS.out.1 HS.out.2 hb).at hlt
        have q4 : (0 : Int) ≤ (k : Int) := by omega
        have q5 : (k : Int) < (m : Int) := by omega
        have hlen : (xs ++ (ss0 ++ ss).map sv).length = xs.length + ss0.length + k := by simp [hkl]; omega
        have ho2 := ho
        rw [← hlen] at ho2
        have Hlen := Lib.hid hlen
        have hsz := hb.size
        have hcall := suffix_toIndices B (sb k) (ko k) _ _ wr ((HK.out k hlt).below hb) ho2 (by have := hn.out; rw [hlen]; omega) (by have := hB.out; omega)
        rw [hlen] at hcall
        have HC := Lib.hid (And.intro hks hkl)
        have HB := Lib.hid hb
        have Hcall := Lib.hid hcall
        clear hb ho ho2 hks hkl hlen hsz hcall HR
        go_wp2_with fail
        refine Hcall.out.mono ?_
        rintro e w3 ⟨hb3, h⟩
        have HB3 := Lib.hid (HB.out.trans hb3)
        clear hb3
        rcases h with ⟨h3, rfl⟩ | ⟨s3, g3, cap3, h3, rfl, h5⟩
        · have H3 := Lib.hid h3
          clear h3
          go_wp2
          go_ret
          exact ⟨HB3.out, .inl ⟨allSome_app_none ks (allSome_none ((List.range m).map ko) (List.mem_map.2 ⟨k, List.mem_range.2 hlt, H3.out⟩)), rfl⟩⟩
        · have H5 := Lib.hid (And.intro h3 h5)
          clear h3 h5
          rw [Hlen.out] at H5 ⊢
          go_wp2
          go_roundw
          case rel =>
            refine ⟨k + 1, g3, cap3, ss ++ [s3], by omega, by go_num, by simp only [Nat.add_assoc], HB3.out, ?_, ?_, ?_⟩
            · have := H5.out.2
              rw [List.append_assoc, ← List.map_singleton (f := sv), ← List.map_append, List.append_assoc] at this
              exact this
            · rw [List.range_succ, List.map_append, HC.out.1, List.map_append, List.map_singleton, H5.out.1]; rfl
            · simp [HC.out.2]
          case measure => simp [intOf]; omega
      · have hk2 : (m : Int) ≤ (k : Int) := by omega
        obtain rfl : k = m := by omega
        go_wp2
        go_ret
        obtain ⟨hb, ho, hks, hkl⟩ := HR.out
        refine ⟨hb, .inr ⟨ss0 ++ ss, g, cap, allSome_app HA.out (allSome_map hks), ?_, ?_⟩⟩
        · simp [hkl, Nat.add_assoc]
        · have e : (ss0 ++ ss).length = ss0.length + k := by simp [hkl]
          rw [e, ← Nat.add_assoc]; exact ho
theorem term_none (t : Nat) (ty : Int) (v : Value) (w : World) (c0 : w.cell? ⟨t, 0, none⟩ = some (.int .i64 ty)) (h1 : ty ≠ 6) (h2 : ty ≠ 20) :
    Calls Tryz.prog 70 #[bq t, v] w fun e w' => e = .returned (.slice none 0 0) ∧ w = w' := by
  have q1 : (ty == 6) = false := by simpa using h1
  have q2 : (ty == 20) = false := by simpa using h2
  go_enter Tryz.func70, Tryz.ntmps70
  go_wp2
  go_ret
  exact ⟨rfl, rfl⟩
theorem query_term (B q t : Nat) (ks : List (Option ByteArray)) (w : World) (hq : q < B) (c3 : w.cell? ⟨q, 3, none⟩ = some (bq t)) (ht : TermIx B w t ks) : QueryIx B w q ks := by
  intro w1 v xs hb hown hn hB
  have d3 := below_cell hb hq c3
  have HC := Lib.hid (ht w1 v xs hb hown hn hB)
  clear c3 ht hb hown hn hB
  go_enter Tryz.func55, Tryz.ntmps55
  go_wp2_with fail
  refine HC.out.mono ?_
  rintro e w2 ⟨hb2, hr⟩
  rcases hr with ⟨h3, rfl⟩ | ⟨ss0, g, cap, h3, rfl, h5⟩
  · have H3 := Lib.hid (And.intro hb2 h3)
    clear hb2 h3
    go_wp2
    go_ret
    exact ⟨H3.out.1, .inl ⟨H3.out.2, rfl⟩⟩
  · have H3 := Lib.hid (And.intro hb2 (And.intro h3 h5))
    clear hb2 h3 h5
    go_wp2
    go_ret
    exact ⟨H3.out.1, .inr ⟨ss0, g, cap, H3.out.2.1, rfl, H3.out.2.2⟩⟩
end
end Go.Proofs.YticjhbklcpoonaaGreatDoor
