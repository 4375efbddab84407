/- The walk of FnSuffixToIndicesExtendsList. -/
import Derived.Test.YticjhbklcpoonaaGreatDoorSxc
namespace Go.Proofs.YticjhbklcpoonaaGreatDoor
open Go.RowKit Go.Gq
set_option maxRecDepth 100000
section
attribute [local go_sem] Lib.run_eql_slice_nil
set_option maxHeartbeats 1000000 in
theorem cloneStrings_rd (a : Option Addr) (n c : Nat) (f : Nat → ByteArray) (w : World) (hn : n ≤ 1048576) (h : Rd w a n (fun i => Value.string (f i))) :
    Calls Tryz.prog 23 #[.slice a n c] w fun e w' => ∃ a' c', e = .returned (.slice a' n c') ∧ Rd w' a' n (fun i => Value.string (f i)) ∧ Kept w w' := by
  cases a with
  | none =>
    obtain rfl := rd_none h
    go_enter Tryz.func23, Tryz.ntmps23
    go_wp2
    go_ret
    exact ⟨none, 0, rfl, .inl rfl, Below.refl _ _⟩
  | some x =>
    have hmk := make_gen 29 9 Tryz.underlying29 tixStr rfl (by omega) n n (Nat.le_refl _) (by omega)
    go_enter Tryz.func23, Tryz.ntmps23
    go_wp2
    obtain ⟨W, HW⟩ : ∃ W : World, W = w.alloc (.cells (madeCells #[Value.string ⟨#[]⟩] n) 9) := ⟨_, rfl⟩
    have hrow : W.rowIs w.heap.size 9 n (fun _ => Value.string ⟨#[]⟩) := by rw [HW]; exact World.rowIs_made w _ n 9
    have hk : Kept w W := by rw [HW]; exact kept_alloc _ _
    rw [← HW]
    clear HW hmk
    go_loopw [4] (fun i wr => ∃ k : Nat, k ≤ n ∧ i = .int .i64 k ∧ wr.rowIs w.heap.size 9 n (fun j => if j < k then Value.string (f j) else Value.string ⟨#[]⟩) ∧ Kept w wr) (fun i _ => n - (intOf i).toNat)
    case atStart => exact ⟨0, Nat.zero_le _, rfl, by simpa using hrow, hk⟩
    case round =>
      obtain ⟨k, hk, rfl, hrow, hkp⟩ := hrel
      by_cases hlt : k < n
      · obtain ⟨b, off, hx, hc⟩ := (h.kept hkp).at hlt
        injection hx with hx
        subst hx
        have hd := hrow.cell hlt
        have hz := hrow.frozen k
        have hset := (hrow.set k (Value.string (f k))).congr (g := fun j => if j < k + 1 then Value.string (f j) else Value.string ⟨#[]⟩) (fun j hj => by
          by_cases e : j = k
          · subst e; simp
          · simp only [if_neg e]; by_cases e2 : j < k
            · rw [if_pos e2, if_pos (by omega)]
            · rw [if_neg e2, if_neg (by omega)])
        have hkp2 := hkp.setCell (p := ⟨w.heap.size, k, none⟩) (Nat.le_refl _) (Value.string (f k))
        have Hset := Lib.hid hset
        have Hkp := Lib.hid hkp2
        have q4 : (0 : Int) ≤ (k : Int) := by omega
        have q5 : (k : Int) < (n : Int) := by omega
        simp only [Nat.lt_irrefl, if_false] at hd
        clear hset hkp2 hrow hkp h
        go_wp2
        go_roundw
        case rel => exact ⟨k + 1, by omega, by go_num, Hset.out, Hkp.out⟩
        case measure => simp [intOf]; omega
      · have : k = n := by omega
        subst this
        go_wp2
        go_ret
        refine ⟨_, _, rfl, rd_row (hrow.congr fun i hi => by simp [hi]), hkp⟩
/-- What the converter answers. -/
def ZSAns (n : Nat) (p : Nat → ByteArray) (o : Option ByteArray) (w : World) (e : Ending) (w' : World) : Prop :=
  Kept w w' ∧ ((o = none ∧ e = .returned (.slice none 0 0)) ∨ ∃ (x : ByteArray) (g cap : Nat), o = some x ∧ e = .returned (.slice (some ⟨g, 0, none⟩) (n + 1) cap) ∧ Rd w' (some ⟨g, 0, none⟩) (n + 1) (fun i => if i < n then sv (p i) else sv x))
theorem zs_of {B n : Nat} {p : Nat → ByteArray} {o : Option ByteArray} {w w' : World} {e : Ending} {xs : List Value} (hl : xs.length = n) (hx : ∀ i, i < n → xs[i]? = some (sv (p i))) (hk : Kept w w') (h : (oKy o = .no ∧ e = .returned (.slice none 0 0)) ∨ ∃ y g cap, oKy o ≠ .no ∧ (oKy o).is B w' y ∧ e = .returned (.slice (some ⟨g, 0, none⟩) (xs.length + 1) cap) ∧ w'.ownsRow w.heap.size 20 1 (.slice (some ⟨g, 0, none⟩) (xs.length + 1) cap) (xs.length + 1) (xs ++ [y])) : ZSAns n p o w e w' := by
  refine ⟨hk, ?_⟩
  rcases h with ⟨h1, h2⟩ | ⟨y, g, cap, h1, h2, h3, h4⟩
  · cases o with
    | none => exact .inl ⟨rfl, h2⟩
    | some x => cases h1
  · cases o with
    | none => exact absurd rfl h1
    | some x =>
      simp only [oKy, Ky.is] at h2
      subst h2
      rw [hl] at h3 h4
      refine .inr ⟨x, g, cap, rfl, h3, ?_⟩
      refine (own_rd h4 rfl _ fun i hi => ?_).2
      by_cases e : i < n
      · rw [List.getElem?_append_left (by omega), hx i e]; simp [e]
      · obtain rfl : i = n := by omega
        rw [List.getElem?_append_right (by omega)]; simp [hl]
set_option maxHeartbeats 2000000 in
theorem ZS_any (b : Nat) (o : Option ByteArray) (a0 : Option Addr) (n c0 : Nat) (p : Nat → ByteArray) (w : World) (hq : SufC w.heap.size w b o) (h0 : Rd w a0 n (fun i => .string (p i))) (hn : n ≤ 1048576) :
    Calls Tryz.prog 25 #[bq b, .slice a0 n c0] w (ZSAns n p o w) := by
  cases a0 with
  | none =>
    obtain rfl := rd_none h0
    have hcall := hq w.heap.size w ns [] (Nat.le_refl _) (Below.refl _ _) (World.ownsRow_nil _ _ _ _) (by simp) (Nat.le_refl _)
    have Hcall := Lib.hid hcall
    clear hcall hq h0
    go_enter Tryz.func25, Tryz.ntmps25
    go_wp2_with fail
    refine Hcall.out.mono ?_
    rintro e w3 ⟨hb3, hr⟩
    have HZ : Hid (ZSAns 0 p o w e w3) := zs_of rfl (fun i h => absurd h (Nat.not_lt_zero i)) hb3 hr
    rcases hr with ⟨_, rfl⟩ | ⟨y, g, cap, _, _, rfl, _⟩
    all_goals
      clear hb3
      go_wp2
      go_ret
      exact HZ.out
  | some ad =>
    have H0 := Lib.hid h0
    have HT := Lib.hid hq
    have hmk := make_gen 62 20 Tryz.underlying62 tixAny rfl (by omega) n n (Nat.le_refl _) (by omega)
    clear h0 hq
    go_enter Tryz.func25, Tryz.ntmps25
    go_wp2
    obtain ⟨W, HW⟩ : ∃ W : World, W = w.alloc (.cells (madeCells #[.nilIface] n) 20) := ⟨_, rfl⟩
    have HI : Hid (W.rowIs w.heap.size 20 n (fun _ => .nilIface) ∧ Kept w W) := by
      rw [HW]
      exact ⟨World.rowIs_made w _ n 20, kept_alloc _ _⟩
    rw [← HW]
    clear HW hmk
    go_loopw [6, 14] (fun _ i wr => ∃ k : Nat, k ≤ n ∧ i = .int .i64 k ∧ Hid (wr.rowIs w.heap.size 20 n (fun j => if j < k then sv (p j) else .nilIface) ∧ Kept w wr)) (fun _ i _ => n - (intOf i).toNat)
    case atStart => exact ⟨0, Nat.zero_le _, rfl, by simpa using HI.out.1, HI.out.2⟩
    case round =>
    obtain ⟨k, hk, rfl, HR⟩ := hrel
    obtain ⟨hrow, hkp⟩ := HR.out
    by_cases hlt : k < n
    · obtain ⟨xb, xo, e1, hc0⟩ := (H0.out.kept hkp).at hlt
      injection e1 with e1
      subst e1
      obtain ⟨x, hx⟩ : ∃ x, x = p k := ⟨_, rfl⟩
      rw [← hx] at hc0
      have q4 : (0 : Int) ≤ (k : Int) := by omega
      have q5 : (k : Int) < (n : Int) := by omega
      have hd := hrow.cell hlt
      have hz := hrow.frozen k
      have hset := (hrow.set k (sv x)).congr (g := fun j => if j < k + 1 then sv (p j) else .nilIface) (fun j hj => by
        by_cases e : j = k
        · subst e; simp [hx]
        · simp only [if_neg e]; by_cases e2 : j < k
          · rw [if_pos e2, if_pos (by omega)]
          · rw [if_neg e2, if_neg (by omega)])
      have hkp2 := hkp.setCell (p := ⟨w.heap.size, k, none⟩) (Nat.le_refl _) (sv x)
      have HN := Lib.hid (And.intro hset hkp2)
      simp only [Nat.lt_irrefl, if_false] at hd
      clear hset hkp2 hrow hkp hx HR HI
      go_wp2
      go_roundw
      case rel => exact ⟨k + 1, by omega, by go_num, HN.out⟩
      case measure => simp [intOf]; omega
    obtain rfl : k = n := by omega
    have ho := own_of_row (B := w.heap.size) (hrow.congr (g := fun j => sv (p j)) fun i hi => by simp [hi]) (Nat.le_refl _) (by simp only [maxLen]; omega)
    have hlen : ((List.range k).map (fun j => sv (p j))).length = k := by simp
    have hcall := HT.out w.heap.size wr _ ((List.range k).map (fun j => sv (p j))) (Nat.le_refl _) hkp (by rw [hlen]; exact ho) (by rw [hlen]; omega) hkp.size
    have Hcall := Lib.hid hcall
    have HB := Lib.hid hkp
    have hkk : (k : Int) ≤ (k : Int) := Int.le_refl _
    have HL := Lib.hid hlen
    clear hlt hk hkp ho hlen hcall HR HI hrow
    go_wp2_with fail
    refine Hcall.out.mono ?_
    rintro e w3 ⟨hb3, hr⟩
    have HZ : Hid (ZSAns k p o w e w3) := zs_of HL.out (fun i h => by simp [h]) (Below.trans HB.out hb3) hr
    rcases hr with ⟨_, rfl⟩ | ⟨y, g, cap, _, _, rfl, _⟩
    all_goals
      clear hb3
      go_wp2
      go_ret
      first
        | exact HZ.out
        | (have h := HZ.out; rw [HL.out] at h; exact h)
theorem eqIn_same (d : Nat) (z : ByteArray) (W : World) : (Op.equalIn (d + 2) 20 (sv z) (sv z)).run Tryz.prog W = .ok true W := by
  have hc : (Tryz.prog.info? 9).map (·.comparable) = some true := by kernel_rfl
  cases hi : Tryz.prog.info? 9 with
  | none => simp [hi] at hc
  | some i =>
    have hcc : i.comparable = true := by simpa [hi] using hc
    simp [Op.equalIn, run_underlying Tryz.underlying20, run_underlying Tryz.underlying9, typeInfo, hi, hcc, bytes_beq]
theorem ne_same (z : ByteArray) (W : World) : (binOp .neq 20 (sv z) (sv z)).run Tryz.prog W = .ok (.bool false) W := by
  simp only [binOp]
  simp [Op.equal, Op.maxDepth, eqIn_same 9998 z W]
theorem eq_same (z : ByteArray) (W : World) : (binOp .eql 20 (sv z) (sv z)).run Tryz.prog W = .ok (.bool true) W := by
  simp only [binOp]
  simp [Op.equal, Op.maxDepth, eqIn_same 9998 z W]
theorem blk_kept {w w' : World} {b : Nat} {o : Obj} (k : Kept w w') (h : w.heap[b]? = some o) : w'.heap[b]? = some o := by
  have hlt : b < w.heap.size := by
    by_cases e : b < w.heap.size
    · exact e
    · rw [Array.getElem?_eq_none (by omega)] at h; cases h
  rw [k.block b hlt]; exact h
theorem sin_facts (hi : Bool) (nm : ByteArray) (hs : Bool) (st : ByteArray) (it sl : Bool) (sk : Int) (s : ByteArray) (ek : Int) (es : ByteArray) (ir op : Bool) {W : World} {b : Nat} (h : W.heap[b]? = some (.cells #[.bool hi, .string nm, .bool hs, .string st, .bool it, .bool sl, .int .i64 sk, .string s, .int .i64 ek, .string es, .bool ir, .bool op] 55)) :
    W.cell? ⟨b, 0, none⟩ = some (.bool hi) ∧ W.cell? ⟨b, 1, none⟩ = some (.string nm) ∧ W.cell? ⟨b, 2, none⟩ = some (.bool hs) ∧ W.cell? ⟨b, 3, none⟩ = some (.string st) ∧ W.cell? ⟨b, 4, none⟩ = some (.bool it) ∧ W.cell? ⟨b, 5, none⟩ = some (.bool sl) ∧ W.cell? ⟨b, 6, none⟩ = some (.int .i64 sk) ∧ W.cell? ⟨b, 7, none⟩ = some (.string s) ∧ W.cell? ⟨b, 8, none⟩ = some (.int .i64 ek) ∧ W.cell? ⟨b, 9, none⟩ = some (.string es) ∧ W.cell? ⟨b, 10, none⟩ = some (.bool ir) ∧ W.cell? ⟨b, 11, none⟩ = some (.bool op) := by
  refine ⟨?_, ?_, ?_, ?_, ?_, ?_, ?_, ?_, ?_, ?_, ?_, ?_⟩ <;> simp [World.cell?, h]
set_option maxHeartbeats 16000000 in
theorem FnSuffixToIndicesExtendsList_walk (hi : Bool) (nm : ByteArray) (hs : Bool) (st : ByteArray) (it sl : Bool) (sk : Int) (s : ByteArray) (ek : Int) (es : ByteArray) (ir op : Bool) (a0 : Option Addr) (n0 c0 : Nat) (p : Nat → ByteArray) (w : World) (h0 : Rd w a0 n0 (fun i => .string (p i))) (m0 : n0 ≤ 9223372036854775807) (m1 : nm.size ≤ 9223372036854775807) (m3 : st.size ≤ 9223372036854775807) (m7 : s.size ≤ 9223372036854775807) (m9 : es.size ≤ 9223372036854775807) (k0 : ∀ i, i < n0 → (p i).size ≤ 9223372036854775807) :
    Calls Tryz.prog 5 #[sin hi nm hs st it sl sk s ek es ir op, .slice a0 n0 c0] w (TrueKept w) := by
  have H0 := Lib.hid h0
  obtain ⟨W, hW⟩ : ∃ W : World, W = w.alloc (.cells #[.bool hi, .string nm, .bool hs, .string st, .bool it, .bool sl, .int .i64 sk, .string s, .int .i64 ek, .string es, .bool ir, .bool op] 55) := ⟨_, rfl⟩
  have hkw : Kept w W := by rw [hW]; exact kept_alloc _ _
  have HB0 : Hid (W.heap[w.heap.size]? = some (.cells #[.bool hi, .string nm, .bool hs, .string st, .bool it, .bool sl, .int .i64 sk, .string s, .int .i64 ek, .string es, .bool ir, .bool op] 55)) := by rw [hW]; exact heap_alloc_new w _
  have HZ := zzBytes_any56 hi nm hs st it sl sk s ek es ir op m1 m3 m7 m9 a0 n0 c0 p W (h0.kept hkw) m0 k0
  have K0 := Lib.hid hkw
  clear h0 k0 hkw
  go_enter Tryz.func5, Tryz.ntmps5
  go_wp2_with fail
  rw [← hW]
  clear hW
  refine HZ.mono ?_
  rintro e w1 ⟨b, rfl, hk1⟩
  have K1 := Lib.hid (K0.out.trans hk1)
  have HB1 := Lib.hid (blk_kept hk1 HB0.out)
  clear HZ hk1 K0 HB0
  cases b with
  | false =>
    go_wp2
    go_ret
    exact ⟨rfl, K1.out⟩
  | true =>
  by_cases g0 : 65536 < n0
  · go_wp2
    go_ret
    exact ⟨rfl, K1.out⟩
  obtain ⟨d0, d1, d2, d3, d4, d5, d6, d7, d8, d9, d10, d11⟩ := sin_facts hi nm hs st it sl sk s ek es ir op HB1.out
  go_wp2_with fail
  refine (suffixBytes_any hi nm hs st it sl sk s ek es ir op w1).mono ?_
  rintro e w2 ⟨z1, rfl, hk2⟩
  have K2 := Lib.hid (K1.out.trans hk2)
  have HB2 := Lib.hid (blk_kept hk2 HB1.out)
  clear hk2 K1 HB1 d0 d1 d2 d3 d4 d5 d6 d7 d8 d9 d10 d11
  go_wp2_with fail
  refine (stringsBytes_any a0 n0 c0 p w2 (H0.out.kept K2.out) m0).mono ?_
  rintro e w3 ⟨z2, rfl, rfl⟩
  by_cases g3 : 1048576 < wrap64 (z1 + z2)
  · go_wp2
    go_ret
    exact ⟨rfl, K2.out⟩
  obtain ⟨d0, d1, d2, d3, d4, d5, d6, d7, d8, d9, d10, d11⟩ := sin_facts hi nm hs st it sl sk s ek es ir op HB2.out
  go_wp2_with fail
  refine (outside_any hi nm hs st it sl sk s ek es ir op m1 m3 m7 m9 w2).mono ?_
  rintro e w4 ⟨b, rfl, hk4, hout⟩
  have K4 := Lib.hid (K2.out.trans hk4)
  have HB4 := Lib.hid (blk_kept hk4 HB2.out)
  have HO := Lib.hid hout
  clear hk4 K2 HB2 d0 d1 d2 d3 d4 d5 d6 d7 d8 d9 d10 d11 hout g3
  cases b with
  | true =>
    go_wp2
    go_ret
    exact ⟨rfl, K4.out⟩
  | false =>
  obtain ⟨d0, d1, d2, d3, d4, d5, d6, d7, d8, d9, d10, d11⟩ := sin_facts hi nm hs st it sl sk s ek es ir op HB4.out
  go_wp2_with fail
  refine (isBracket_any hi nm hs st it sl sk s ek es ir op w4).mono ?_
  rintro e w6 ⟨rfl, hk6⟩
  have K6 := Lib.hid (K4.out.trans hk6)
  have HB6 := Lib.hid (blk_kept hk6 HB4.out)
  clear hk6 K4 HB4 d0 d1 d2 d3 d4 d5 d6 d7 d8 d9 d10 d11
  obtain ⟨br, hbr⟩ : ∃ br, br = (hi && nm.toList.isEmpty && !hs) := ⟨_, rfl⟩
  rw [← hbr]
  have HBR := Lib.hid hbr
  clear hbr
  cases br with
  | true =>
    obtain ⟨d0, d1, d2, d3, d4, d5, d6, d7, d8, d9, d10, d11⟩ := sin_facts hi nm hs st it sl sk s ek es ir op HB6.out
    cases sl with
    | true =>
      go_wp2
      go_ret
      exact ⟨rfl, K6.out⟩
    | false =>
    by_cases hsk : sk = 1
    · subst hsk
      go_wp2
      go_ret
      exact ⟨rfl, K6.out⟩
    have hskb : (sk == 1) = false := by simpa using hsk
    have HG : Hid (hi = true → nm.toList.isEmpty = true → hs = false → false = false ∧ sk = 2) := fun h1 h2 h3 => ⟨rfl, by
      by_cases h : sk = 2
      · exact h
      · exact absurd (HO.out h1 h2 h3 rfl hsk h) (by simp)⟩
    go_wp2_with fail
    refine (cloneStrings_rd a0 n0 c0 p w6 (by omega) (H0.out.kept K6.out)).mono ?_
    rintro e w7 ⟨x0, xc0, rfl, hr, hk7⟩
    have R7 := Lib.hid hr
    have K7 := Lib.hid (K6.out.trans hk7)
    have HB7 := Lib.hid (blk_kept hk7 HB6.out)
    clear hr hk7 K6 H0 HB6 d0 d1 d2 d3 d4 d5 d6 d7 d8 d9 d10 d11
    obtain ⟨d0, d1, d2, d3, d4, d5, d6, d7, d8, d9, d10, d11⟩ := sin_facts hi nm hs st it false sk s ek es ir op HB7.out
    go_wp2_with fail
    refine (buildSuffix_any hi nm hs st it false sk s ek es ir op w7 (fun h1 h2 h3 => ⟨rfl, (HG.out h1 h2 h3).2⟩)).mono ?_
    rintro e w8 ⟨b, o, rfl, hk8, hs8⟩
    have R8 := Lib.hid (R7.out.kept hk8)
    have K8 := Lib.hid (K7.out.trans hk8)
    have HS8 := Lib.hid hs8
    clear hk8 hs8 R7 K7 d0 d1 d2 d3 d4 d5 d6 d7 d8 d9 d10 d11 HB7
    go_wp2_with fail
    refine (ZS_any b o none 0 0 p w8 HS8.out (.inl rfl) (by omega)).mono ?_
    rintro e w9 ⟨hk9, hr0⟩
    have R9 := Lib.hid (R8.out.kept hk9)
    have K9 := Lib.hid (K8.out.trans hk9)
    have HS9 := Lib.hid (HS8.out.up hk9)
    clear hk9 R8 K8 HS8
    rcases hr0 with ⟨rfl, rfl⟩ | ⟨x, g, cap, rfl, rfl, hr0⟩
    · go_wp2_with fail
      refine (ZS_any b none x0 n0 xc0 p w9 HS9.out R9.out (by omega)).mono ?_
      rintro e wA ⟨hkA, hrA⟩
      have KA := Lib.hid (K9.out.trans hkA)
      clear hkA
      rcases hrA with ⟨_, rfl⟩ | ⟨x, g, cap, h, _⟩
      · go_wp2
        go_ret
        exact ⟨rfl, KA.out⟩
      · cases h
    simp only [Nat.zero_add] at hr0 ⊢
    have HR0 := Lib.hid hr0
    clear hr0
    go_wp2_with fail
    refine (ZS_any b (some x) x0 n0 xc0 p w9 HS9.out R9.out (by omega)).mono ?_
    rintro e wA ⟨hkA, hrA⟩
    have KA := Lib.hid (K9.out.trans hkA)
    have RA := Lib.hid (R9.out.kept hkA)
    have RA0 := Lib.hid (HR0.out.kept hkA)
    clear hkA R9 K9 HR0 HS9
    rcases hrA with ⟨h, _⟩ | ⟨x2, g2, cap2, h, rfl, hrA⟩
    · cases h
    injection h with h
    subst h
    have HR2 := Lib.hid hrA
    have hcA := rd_at0 hrA (Nat.lt_succ_self n0)
    have hcB := rd_at0 RA0.out (show 0 < 1 by omega)
    simp only [Nat.lt_irrefl, if_false] at hcA hcB
    have HCA := Lib.hid hcA
    have HCB := Lib.hid hcB
    obtain ⟨M, hM⟩ : ∃ M, M = n0 + 1 := ⟨_, rfl⟩
    rw [← hM]
    have u1 : (n0 : Int) + 1 = (M : Int) := by omega
    have u2 : ((M : Int) != (M : Int)) = false := by simp
    have hMb : M ≤ 65537 := by omega
    have hMb2 : n0 < M := by omega
    clear hM hrA hcA hcB
    go_wp2_with fail
    go_loopw [8] (fun i wr => ∃ k r : Nat, k ≤ n0 ∧ i = .int .i64 k ∧ wr = wA.drewN r) (fun i _ => n0 - (intOf i).toNat)
    case atStart => exact ⟨0, 0, Nat.zero_le _, rfl, rfl⟩
    case round =>
    obtain ⟨k, r, hk, rfl, rfl⟩ := hrel
    by_cases hlt : k < n0
    · obtain ⟨xb, xo, rfl, hx⟩ := RA.out.at hlt
      have hy := rd_at0 HR2.out (show k < n0 + 1 by omega)
      simp only [if_pos hlt] at hy
      obtain ⟨z, hz⟩ : ∃ z, z = p k := ⟨_, rfl⟩
      rw [← hz] at hx hy
      have q4 : (0 : Int) ≤ (k : Int) := by omega
      have q5 : (k : Int) < (n0 : Int) := by omega
      have q6 : (k : Int) < (M : Int) := by omega
      have q7 := ne_same z
      clear hz
      go_wp2_with fail
      go_quiet (fail)
      go_wp2
      go_roundw
      case rel => first | exact ⟨k + 1, _, by omega, by go_num, rfl⟩ | ((repeat apply Exists.intro); refine ⟨?_, rfl⟩; exact ⟨k + 1, _, by omega, by go_num, rfl⟩)
      case measure => simp [intOf]; omega
    obtain rfl : k = n0 := by omega
    have hy := HCA.out
    have hz := HCB.out
    have q4 : (0 : Int) ≤ (k : Int) := by omega
    have q6 : (k : Int) < (M : Int) := by omega
    have q7 := eq_same x
    clear hlt
    go_wp2_with fail
    go_quiet (fail)
    go_wp2
    go_ret
    exact ⟨rfl, (KA.out.trans (kept_drewN wA _)).trans (kept_drewN _ _)⟩
  | false =>
    have HG : Hid (hi = true → nm.toList.isEmpty = true → hs = false → sl = false ∧ sk = 2) := fun h1 h2 h3 => absurd HBR.out (by rw [h1, h2, h3]; decide)
    obtain ⟨d0, d1, d2, d3, d4, d5, d6, d7, d8, d9, d10, d11⟩ := sin_facts hi nm hs st it sl sk s ek es ir op HB6.out
    go_wp2_with fail
    refine (cloneStrings_rd a0 n0 c0 p w6 (by omega) (H0.out.kept K6.out)).mono ?_
    rintro e w7 ⟨x0, xc0, rfl, hr, hk7⟩
    have R7 := Lib.hid hr
    have K7 := Lib.hid (K6.out.trans hk7)
    have HB7 := Lib.hid (blk_kept hk7 HB6.out)
    clear hr hk7 K6 H0 HB6 d0 d1 d2 d3 d4 d5 d6 d7 d8 d9 d10 d11
    obtain ⟨d0, d1, d2, d3, d4, d5, d6, d7, d8, d9, d10, d11⟩ := sin_facts hi nm hs st it sl sk s ek es ir op HB7.out
    go_wp2_with fail
    refine (buildSuffix_any hi nm hs st it sl sk s ek es ir op w7 HG.out).mono ?_
    rintro e w8 ⟨b, o, rfl, hk8, hs8⟩
    have R8 := Lib.hid (R7.out.kept hk8)
    have K8 := Lib.hid (K7.out.trans hk8)
    have HS8 := Lib.hid hs8
    clear hk8 hs8 R7 K7 d0 d1 d2 d3 d4 d5 d6 d7 d8 d9 d10 d11 HB7
    go_wp2_with fail
    refine (ZS_any b o none 0 0 p w8 HS8.out (.inl rfl) (by omega)).mono ?_
    rintro e w9 ⟨hk9, hr0⟩
    have R9 := Lib.hid (R8.out.kept hk9)
    have K9 := Lib.hid (K8.out.trans hk9)
    have HS9 := Lib.hid (HS8.out.up hk9)
    clear hk9 R8 K8 HS8
    rcases hr0 with ⟨rfl, rfl⟩ | ⟨x, g, cap, rfl, rfl, hr0⟩
    · go_wp2_with fail
      refine (ZS_any b none x0 n0 xc0 p w9 HS9.out R9.out (by omega)).mono ?_
      rintro e wA ⟨hkA, hrA⟩
      have KA := Lib.hid (K9.out.trans hkA)
      clear hkA
      rcases hrA with ⟨_, rfl⟩ | ⟨x, g, cap, h, _⟩
      · go_wp2
        go_ret
        exact ⟨rfl, KA.out⟩
      · cases h
    simp only [Nat.zero_add] at hr0 ⊢
    have HR0 := Lib.hid hr0
    clear hr0
    go_wp2_with fail
    refine (ZS_any b (some x) x0 n0 xc0 p w9 HS9.out R9.out (by omega)).mono ?_
    rintro e wA ⟨hkA, hrA⟩
    have KA := Lib.hid (K9.out.trans hkA)
    have RA := Lib.hid (R9.out.kept hkA)
    have RA0 := Lib.hid (HR0.out.kept hkA)
    clear hkA R9 K9 HR0 HS9
    rcases hrA with ⟨h, _⟩ | ⟨x2, g2, cap2, h, rfl, hrA⟩
    · cases h
    injection h with h
    subst h
    have HR2 := Lib.hid hrA
    have hcA := rd_at0 hrA (Nat.lt_succ_self n0)
    have hcB := rd_at0 RA0.out (show 0 < 1 by omega)
    simp only [Nat.lt_irrefl, if_false] at hcA hcB
    have HCA := Lib.hid hcA
    have HCB := Lib.hid hcB
    obtain ⟨M, hM⟩ : ∃ M, M = n0 + 1 := ⟨_, rfl⟩
    rw [← hM]
    have u1 : (n0 : Int) + 1 = (M : Int) := by omega
    have u2 : ((M : Int) != (M : Int)) = false := by simp
    have hMb : M ≤ 65537 := by omega
    have hMb2 : n0 < M := by omega
    clear hM hrA hcA hcB
    go_wp2_with fail
    go_loopw [8] (fun i wr => ∃ k r : Nat, k ≤ n0 ∧ i = .int .i64 k ∧ wr = wA.drewN r) (fun i _ => n0 - (intOf i).toNat)
    case atStart => exact ⟨0, 0, Nat.zero_le _, rfl, rfl⟩
    case round =>
    obtain ⟨k, r, hk, rfl, rfl⟩ := hrel
    by_cases hlt : k < n0
    · obtain ⟨xb, xo, rfl, hx⟩ := RA.out.at hlt
      have hy := rd_at0 HR2.out (show k < n0 + 1 by omega)
      simp only [if_pos hlt] at hy
      obtain ⟨z, hz⟩ : ∃ z, z = p k := ⟨_, rfl⟩
      rw [← hz] at hx hy
      have q4 : (0 : Int) ≤ (k : Int) := by omega
      have q5 : (k : Int) < (n0 : Int) := by omega
      have q6 : (k : Int) < (M : Int) := by omega
      have q7 := ne_same z
      clear hz
      go_wp2_with fail
      go_quiet (fail)
      go_wp2
      go_roundw
      case rel => first | exact ⟨k + 1, _, by omega, by go_num, rfl⟩ | ((repeat apply Exists.intro); refine ⟨?_, rfl⟩; exact ⟨k + 1, _, by omega, by go_num, rfl⟩)
      case measure => simp [intOf]; omega
    obtain rfl : k = n0 := by omega
    have hy := HCA.out
    have hz := HCB.out
    have q4 : (0 : Int) ≤ (k : Int) := by omega
    have q6 : (k : Int) < (M : Int) := by omega
    have q7 := eq_same x
    clear hlt
    go_wp2_with fail
    go_quiet (fail)
    go_wp2
    go_ret
    exact ⟨rfl, (KA.out.trans (kept_drewN wA _)).trans (kept_drewN _ _)⟩

end
end Go.Proofs.YticjhbklcpoonaaGreatDoor
