/- The law's own pieces: where runes start, what is in range. -/
import Derived.Test.YticjhbklcpoonaaGreatDoorCvt
import Derived.Test.YticjhbklcpoonaaGreatDoorWie
namespace Go.Proofs.YticjhbklcpoonaaGreatDoor
open Go.RowKit Go.Gq
set_option maxRecDepth 100000
theorem tixU8 : (Tryz.prog.info? 5).map (fun i => (i.zero, i.size, i.bytes)) = some (some (.int .u8 0), 1, 1) := by kernel_rfl
theorem own_empty (w : World) (E : TypeId) : (w.alloc (.cells #[] E)).ownsRow w.heap.size E 1 (.slice (some ⟨w.heap.size, 0, none⟩) 0 0) 0 [] :=
   World.ownsRow_made w #[] 0 (Nat.le_refl _) (by simp only [maxLen]; omega) rfl
def RposIs (s : ByteArray) (B : Nat) (w : World) (g cap k : Nat) : Prop := w.ownsRow B 3 1 (.slice (some ⟨g, 0, none⟩) k cap) k ((List.range k).map (fun j => Value.int .i64 (rpos s j)))
set_option maxHeartbeats 2000000 in
theorem runeStarts_any (v : ByteArray) (w : World) (hv : v.size ≤ 1048576) :
    Calls Tryz.prog 58 #[.string v] w fun e w' => ∃ g cap, e = .returned (.slice (some ⟨g, 0, none⟩) (rcnt v + 1) cap) ∧ Rd w' (some ⟨g, 0, none⟩) (rcnt v + 1) (fun i => .int .i64 (rpos v i)) ∧ Kept w w' := by
  have L0 := rcnt_le v
  obtain ⟨L, hL⟩ : ∃ L, L = rcnt v := ⟨_, rfl⟩
  rw [← hL] at L0 ⊢
  have HL := Lib.hid hL
  have L1 : L ≤ 1048576 := by omega
  clear hL
  go_enter Tryz.func58, Tryz.ntmps58
  go_wp2
  obtain ⟨W, HW⟩ : ∃ W : World, W = w.alloc (.cells #[] 3) := ⟨_, rfl⟩
  have HI : Hid (Below w.heap.size w W ∧ RposIs v w.heap.size W w.heap.size 0 0) := by
    rw [HW]
    exact ⟨kept_alloc _ _, own_empty w _⟩
  rw [← HW]
  clear HW
  go_loopw [3, 4] (fun x i wr => ∃ (k g cap : Nat), k ≤ L ∧ i = .int .i64 (rpos v k : Int) ∧ x = .slice (some ⟨g, 0, none⟩) k cap ∧ Hid (Below w.heap.size w wr ∧ RposIs v w.heap.size wr g cap k)) (fun _ i _ => v.size - (intOf i).toNat)
  case atStart => exact ⟨0, w.heap.size, 0, Nat.zero_le _, rfl, rfl, HI.out.1, HI.out.2⟩
  case round =>
  obtain ⟨k, g, cap, hk, rfl, rfl, HR⟩ := hrel
  obtain ⟨hb, ho⟩ := HR.out
  by_cases hlt : k < L
  · have hp : rpos v k < v.size := (rpos_iff v k).2 (by have := HL.out; omega)
    have hsx := rpos_succ v k hp
    have hle := rpos_le v (k + 1)
    have hw1 := rw1_pos v _ hp
    have HS := Lib.hid (And.intro hsx (And.intro hle (And.intro hw1 hp)))
    obtain ⟨x, hx⟩ : ∃ x, x = rpos v k := ⟨_, rfl⟩
    rw [← hx] at hp ⊢
    have hwid := width97 v x hp (by omega)
    obtain ⟨y, hy⟩ : ∃ y, y = rw1 v x := ⟨_, rfl⟩
    have hsum : IntKind.i64.wrap ((x : Int) + (y : Int)) = (x : Int) + (y : Int) := IntWalk.i64_in _ (by rw [hsx, ← hx, ← hy] at hle; omega)
    rw [← hy] at hwid
    have HX := Lib.hid hx
    have HY := Lib.hid hy
    have Hwid := Lib.hid hwid
    have hc := cell_fresh wr #[Value.int .i64 (x : Int)] 3 0 (Value.int .i64 (x : Int)) rfl
    have hb3 := below_al hb (Nat.le_refl _) (.cells #[Value.int .i64 (x : Int)] 3)
    have hB2 : w.heap.size ≤ (wr.alloc (.cells #[Value.int .i64 (x : Int)] 3)).heap.size := hb3.size
    have hown2 := own_alloc ho (.cells #[Value.int .i64 (x : Int)] 3)
    have HW := Lib.hid hb3
    clear hx hy HR HI hb hb3 ho hsx hle hw1 hwid
    go_wp2_with (first
      | (at_builtin; refine wpl_app1 rfl _ _ 64 3 rfl Tryz.underlying64 tixInt rfl (by omega) w.heap.size _ (.slice (some ⟨g, 0, none⟩) k cap) k _ rfl hown2 wr.heap.size (Value.int .i64 (x : Int)) rfl hc rfl (by omega) hB2 ?_; intro g2 cap2 w2 ho2 hb2)
      | (go_at_call 72; refine (Hwid.out _).mono ?_; rintro e' w3 ⟨rfl, rfl⟩))
    have HZ := Lib.hid (And.intro ho2 hb2)
    clear ho2 hb2 hown2 hc hB2
    go_roundw
    case rel =>
      refine ⟨k + 1, g2, cap2, by omega, ?_, rfl, HW.out.trans HZ.out.2, ?_⟩
      · rw [HS.out.1, ← HX.out, ← HY.out]; go_num
      · unfold RposIs
        rw [List.range_succ, List.map_append, List.map_singleton, ← HX.out]
        exact HZ.out.1
    case measure =>
      have h1 := HS.out.2.2.1
      have h2 := HY.out
      have h3 := HX.out
      have h4 := HS.out.2.2.2
      rw [← h3, ← h2] at h1
      simp [intOf]
      omega
  obtain rfl : k = L := by omega
  have he := rpos_cnt v (k := k) (by have := HL.out; omega)
  rw [he]
  have hc := cell_fresh wr #[Value.int .i64 (v.size : Int)] 3 0 (Value.int .i64 (v.size : Int)) rfl
  have hb3 := below_al hb (Nat.le_refl _) (.cells #[Value.int .i64 (v.size : Int)] 3)
  have hB2 : w.heap.size ≤ (wr.alloc (.cells #[Value.int .i64 (v.size : Int)] 3)).heap.size := hb3.size
  have hown2 := own_alloc ho (.cells #[Value.int .i64 (v.size : Int)] 3)
  have HW := Lib.hid hb3
  have HE := Lib.hid he
  have hnl : ¬ (v.size : Int) < (v.size : Int) := Int.lt_irrefl _
  clear HR HI hb hb3 ho he hlt hk
  go_wp2_with (first
    | (at_builtin; refine wpl_app1 rfl _ _ 64 3 rfl Tryz.underlying64 tixInt rfl (by omega) w.heap.size _ (.slice (some ⟨g, 0, none⟩) k cap) k _ rfl hown2 wr.heap.size (Value.int .i64 (v.size : Int)) rfl hc rfl (by omega) hB2 ?_; intro g2 cap2 w2 ho2 hb2))
  go_ret
  refine ⟨g2, ⟨cap2, rfl⟩, (own_rd ho2 rfl _ fun i hi => ?_).2, HW.out.trans hb2⟩
  by_cases e : i < k
  · rw [List.getElem?_append_left (by simpa using e)]; simp [e]
  · obtain rfl : i = k := by omega
    rw [List.getElem?_append_right (by simp)]; simp [HE.out]
/-- What is in range. -/
def inS (L i : Nat) : Option Int → Prop
  | none => True
  | some s => (0 ≤ s → s ≤ (i : Int)) ∧ (s < 0 → s + (L : Int) ≤ (i : Int))
def inE (L i : Nat) : Option Int → Prop
  | none => True
  | some e => (0 ≤ e → (i : Int) < e) ∧ (e < 0 → (i : Int) < e + (L : Int))
theorem cl_cases (i lo hi : Int) : ∃ j, ((i < 0 ∧ j = i + hi) ∨ (0 ≤ i ∧ j = i)) ∧ ((j < lo ∧ cl i lo hi = lo) ∨ (lo ≤ j ∧ j < hi ∧ cl i lo hi = j) ∨ (lo ≤ j ∧ hi ≤ j ∧ cl i lo hi = hi)) := by
  unfold cl
  by_cases h : i < 0
  · refine ⟨i + hi, .inl ⟨h, rfl⟩, ?_⟩
    rw [if_pos h]
    repeat' split
    all_goals omega
  · refine ⟨i, .inr ⟨by omega, rfl⟩, ?_⟩
    rw [if_neg h]
    repeat' split
    all_goals omega
theorem in_iff (L i : Nat) (S E : Option Int) (hi : i < L) : (stO L S ≤ i ∧ i < enO L (stO L S) E) ↔ (inS L i S ∧ inE L i E) := by
  have h0 := stO_le L S
  have h1 := enO_bd L (stO L S) E h0
  have e1 : stO L S ≤ i ↔ inS L i S := by
    cases S with
    | none => simp [stO, inS]
    | some s =>
      obtain ⟨j, h2, h3⟩ := cl_cases s 0 L
      simp only [stO, inS] at h0 h1 ⊢
      generalize cl s 0 L = c at *
      constructor <;> intro hh <;> omega
  have e2 : stO L S ≤ i → (i < enO L (stO L S) E ↔ inE L i E) := by
    intro hs
    generalize stO L S = st at *
    cases E with
    | none => simp [enO, inE, hi]
    | some e =>
      obtain ⟨j, h2, h3⟩ := cl_cases e st L
      simp only [enO, inE] at *
      generalize cl e st L = c at *
      constructor <;> intro hh <;> omega
  constructor
  · rintro ⟨a, b⟩; exact ⟨e1.1 a, (e2 a).1 b⟩
  · rintro ⟨a, b⟩; exact ⟨e1.2 a, (e2 (e1.2 a)).2 b⟩
def inB (L i : Nat) (S E : Option Int) : Bool := decide (stO L S ≤ i ∧ i < enO L (stO L S) E)
theorem inB_iff (L i : Nat) (S E : Option Int) : inB L i S E = true ↔ (stO L S ≤ i ∧ i < enO L (stO L S) E) := by unfold inB; exact decide_eq_true_iff
theorem inRange_any (i L : Nat) (S E : Option Int) (hi : i < L) (hL : L ≤ 1048576) (hS : ∀ s, S = some s → -9223372036854775808 ≤ s ∧ s ≤ 9223372036854775807) (hE : ∀ s, E = some s → -9223372036854775808 ≤ s ∧ s ≤ 9223372036854775807) (sS eS : Bool) (sv ev : Int) (q1 : sS = S.isSome) (q2 : sv = S.getD 0) (q3 : eS = E.isSome) (q4 : ev = E.getD 0) (w : World) :
    Calls Tryz.prog 57 #[.int .i64 (i : Int), .int .i64 (L : Int), .bool sS, .int .i64 sv, .bool eS, .int .i64 ev] w fun e w' => e = .returned (.bool (inB L i S E)) ∧ w = w' := by
  have hiff := in_iff L i S E hi
  have hd : ∀ b : Bool, (b = true ↔ (inS L i S ∧ inE L i E)) → b = inB L i S E := fun b h => by
    rw [Bool.eq_iff_iff, inB_iff, hiff]; exact h
  have HI := Lib.hid hd
  have HP := Lib.hid (And.intro hS hE)
  clear hiff hd hS hE
  have goE : ∀ (hSt : inS L i S), (∀ b : Bool, (b = true ↔ inE L i E) → b = inB L i S E) := fun hSt b h => HI.out b ⟨fun hb => ⟨hSt, h.1 hb⟩, fun hh => h.2 hh.2⟩
  have noS : ¬ inS L i S → false = inB L i S E := fun h => HI.out false ⟨fun hb => (Bool.noConfusion hb), fun hh => absurd hh.1 h⟩
  have GE := Lib.hid goE
  have NS := Lib.hid noS
  clear goE noS HI
  have Q := Lib.hid (And.intro q3 q4)
  clear q3 q4
  cases S with
  | none =>
    simp only [Option.isSome, Option.getD] at q1 q2
    subst q1 q2
    have GE2 := Lib.hid (GE.out trivial)
    cases E with
    | none =>
      obtain ⟨q3, q4⟩ := Q.out
      simp only [Option.isSome, Option.getD] at q3 q4
      subst q3 q4
      go_enter Tryz.func57, Tryz.ntmps57
      go_wp2
      go_ret
      exact ⟨ret_bool (GE2.out true ⟨fun _ => trivial, fun _ => rfl⟩), rfl⟩
    | some e =>
      obtain ⟨e0, e1⟩ := HP.out.2 e rfl
      obtain ⟨q3, q4⟩ := Q.out
      simp only [Option.isSome, Option.getD] at q3 q4
      subst q3 q4
      by_cases c3 : 0 ≤ ev
      · by_cases c4 : ev ≤ (i : Int)
        · go_enter Tryz.func57, Tryz.ntmps57
          go_wp2
          go_ret
          exact ⟨ret_bool (GE2.out false ⟨fun h => (Bool.noConfusion h), fun h => by unfold inE at h; omega⟩), rfl⟩
        · go_enter Tryz.func57, Tryz.ntmps57
          go_wp2
          go_ret
          exact ⟨ret_bool (GE2.out true ⟨fun _ => by unfold inE; omega, fun _ => rfl⟩), rfl⟩
      · have hq : IntKind.i64.wrap (ev + (L : Int)) = ev + (L : Int) := IntWalk.i64_in _ (by omega)
        by_cases c4 : ev + (L : Int) ≤ (i : Int)
        · go_enter Tryz.func57, Tryz.ntmps57
          go_wp2
          go_ret
          exact ⟨ret_bool (GE2.out false ⟨fun h => (Bool.noConfusion h), fun h => by unfold inE at h; omega⟩), rfl⟩
        · go_enter Tryz.func57, Tryz.ntmps57
          go_wp2
          go_ret
          exact ⟨ret_bool (GE2.out true ⟨fun _ => by unfold inE; omega, fun _ => rfl⟩), rfl⟩
  | some s =>
    obtain ⟨s0, s1⟩ := HP.out.1 s rfl
    simp only [Option.isSome, Option.getD] at q1 q2
    subst q1 q2
    by_cases c1 : 0 ≤ sv
    · by_cases c2 : (i : Int) < sv
      · go_enter Tryz.func57, Tryz.ntmps57
        go_wp2
        go_ret
        exact ⟨ret_bool (NS.out (by unfold inS; omega)), rfl⟩
      · have GE2 := Lib.hid (GE.out (by unfold inS; omega))
        cases E with
        | none =>
          obtain ⟨q3, q4⟩ := Q.out
          simp only [Option.isSome, Option.getD] at q3 q4
          subst q3 q4
          go_enter Tryz.func57, Tryz.ntmps57
          go_wp2
          go_ret
          exact ⟨ret_bool (GE2.out true ⟨fun _ => trivial, fun _ => rfl⟩), rfl⟩
        | some e =>
          obtain ⟨e0, e1⟩ := HP.out.2 e rfl
          obtain ⟨q3, q4⟩ := Q.out
          simp only [Option.isSome, Option.getD] at q3 q4
          subst q3 q4
          by_cases c3 : 0 ≤ ev
          · by_cases c4 : ev ≤ (i : Int)
            · go_enter Tryz.func57, Tryz.ntmps57
              go_wp2
              go_ret
              exact ⟨ret_bool (GE2.out false ⟨fun h => (Bool.noConfusion h), fun h => by unfold inE at h; omega⟩), rfl⟩
            · go_enter Tryz.func57, Tryz.ntmps57
              go_wp2
              go_ret
              exact ⟨ret_bool (GE2.out true ⟨fun _ => by unfold inE; omega, fun _ => rfl⟩), rfl⟩
          · have hq : IntKind.i64.wrap (ev + (L : Int)) = ev + (L : Int) := IntWalk.i64_in _ (by omega)
            by_cases c4 : ev + (L : Int) ≤ (i : Int)
            · go_enter Tryz.func57, Tryz.ntmps57
              go_wp2
              go_ret
              exact ⟨ret_bool (GE2.out false ⟨fun h => (Bool.noConfusion h), fun h => by unfold inE at h; omega⟩), rfl⟩
            · go_enter Tryz.func57, Tryz.ntmps57
              go_wp2
              go_ret
              exact ⟨ret_bool (GE2.out true ⟨fun _ => by unfold inE; omega, fun _ => rfl⟩), rfl⟩
    · have hq1 : IntKind.i64.wrap (sv + (L : Int)) = sv + (L : Int) := IntWalk.i64_in _ (by omega)
      by_cases c2 : (i : Int) < sv + (L : Int)
      · go_enter Tryz.func57, Tryz.ntmps57
        go_wp2
        go_ret
        exact ⟨ret_bool (NS.out (by unfold inS; omega)), rfl⟩
      · have GE2 := Lib.hid (GE.out (by unfold inS; omega))
        cases E with
        | none =>
          obtain ⟨q3, q4⟩ := Q.out
          simp only [Option.isSome, Option.getD] at q3 q4
          subst q3 q4
          go_enter Tryz.func57, Tryz.ntmps57
          go_wp2
          go_ret
          exact ⟨ret_bool (GE2.out true ⟨fun _ => trivial, fun _ => rfl⟩), rfl⟩
        | some e =>
          obtain ⟨e0, e1⟩ := HP.out.2 e rfl
          obtain ⟨q3, q4⟩ := Q.out
          simp only [Option.isSome, Option.getD] at q3 q4
          subst q3 q4
          by_cases c3 : 0 ≤ ev
          · by_cases c4 : ev ≤ (i : Int)
            · go_enter Tryz.func57, Tryz.ntmps57
              go_wp2
              go_ret
              exact ⟨ret_bool (GE2.out false ⟨fun h => (Bool.noConfusion h), fun h => by unfold inE at h; omega⟩), rfl⟩
            · go_enter Tryz.func57, Tryz.ntmps57
              go_wp2
              go_ret
              exact ⟨ret_bool (GE2.out true ⟨fun _ => by unfold inE; omega, fun _ => rfl⟩), rfl⟩
          · have hq : IntKind.i64.wrap (ev + (L : Int)) = ev + (L : Int) := IntWalk.i64_in _ (by omega)
            by_cases c4 : ev + (L : Int) ≤ (i : Int)
            · go_enter Tryz.func57, Tryz.ntmps57
              go_wp2
              go_ret
              exact ⟨ret_bool (GE2.out false ⟨fun h => (Bool.noConfusion h), fun h => by unfold inE at h; omega⟩), rfl⟩
            · go_enter Tryz.func57, Tryz.ntmps57
              go_wp2
              go_ret
              exact ⟨ret_bool (GE2.out true ⟨fun _ => by unfold inE; omega, fun _ => rfl⟩), rfl⟩
end Go.Proofs.YticjhbklcpoonaaGreatDoor
