/- The walk of FnUpdateObjectDeleteKey. -/
import Derived.Test.YtdlmdmpkjhnbmaaGreatDoorOset
namespace Go.Proofs.YtdlmdmpkjhnbmaaGreatDoor
open Go.RowKit Go.Gq
open Go.Sort
section
attribute [local go_sem] Lib.run_eql_slice_nil
set_option maxRecDepth 100000
/-- The marker at a nil object. -/
theorem updateObject_nilmark (k : ByteArray) (pa : Option Addr) (pc : Nat) (ma : Option Nat) (w : World) :
    Calls Tryz.prog 34 #[.map none, .string k, .slice pa 0 pc, mk0, .map ma] w fun e w' => e = .returned (.tuple #[.nilIface, .nilIface]) ∧ w' = w := by
  have hlk := obj_lookup w (m := none) (l := []) (.inl ⟨rfl, rfl⟩) k
  have hnil : ∀ W : World, (binOp .eql 84 (.map none) (.map none)).run Tryz.prog W = .ok (.bool true) W := fun W => eql_map_nil W _ _ _ none Tryz.underlying84
  simp only [lkp, Option.getD_none, Option.isSome_none] at hlk
  go_enter Tryz.func34, Tryz.ntmps34
  go_wp2_with fail
  go_ret2
  exact ⟨rfl, rfl⟩
/-- The marker at a key that is not there. -/
theorem updateObject_absent (b : Nat) (l : List (ByteArray × Value)) (k : ByteArray) (pa : Option Addr) (pc : Nat) (ma : Option Nat) (w : World) (hm : w.MapIs strKey b l) (hk : lkp k l = none) :
    Calls Tryz.prog 34 #[.map (some b), .string k, .slice pa 0 pc, mk0, .map ma] w fun e w' => e = .returned (.tuple #[.iface 84 (.map (some b)), .nilIface]) ∧ w' = w := by
  have hlk := obj_lookup w (m := some b) (l := l) (.inr ⟨b, rfl, hm⟩) k
  have hnil : ∀ W : World, (binOp .eql 84 (.map (some b)) (.map none)).run Tryz.prog W = .ok (.bool false) W := fun W => eql_map_nil W _ _ _ (some b) Tryz.underlying84
  rw [hk] at hlk
  clear hm hk
  go_enter Tryz.func34, Tryz.ntmps34
  go_wp2_with fail
  go_ret2
  exact ⟨rfl, rfl⟩
set_option maxHeartbeats 1000000 in
/-- The marker at a key that is there, no allocator: a copy. -/
theorem updateObject_markN (b : Nat) (l : List (ByteArray × Value)) (k : ByteArray) (x : Value) (pa : Option Addr) (pc : Nat) (w : World) (hb : w.MapIs strKey b l) (hx : lkp k l = some x) (hlen : l.length ≤ 1048576) :
    Calls Tryz.prog 34 #[.map (some b), .string k, .slice pa 0 pc, mk0, .map none] w fun e w' => ∃ b2 D, e = .returned (.tuple #[.iface 84 (.map (some b2)), .nilIface]) ∧
      w.heap.size ≤ b2 ∧ w'.MapIs strKey b2 D ∧ (∀ y, lkp y D = if y = k then some mk0 else lkp y l) ∧ Kept w w' := by
  have hm : ObjIs w (some b) l := .inr ⟨b, rfl, hb⟩
  have ha : AllocIs w none [] := .inl ⟨rfl, rfl⟩
  have hlk := obj_lookup w hm k
  have Hmlt := Lib.hid (mapIs_lt strKey hb)
  have Hm := Lib.hid hm
  rw [hx] at hlk
  clear hm hb hx
  go_enter Tryz.func34, Tryz.ntmps34
  go_wp2_with fail
  refine (update_empty _ _ _ _ _ _).mono ?_
  rintro e w' ⟨rfl, rfl⟩
  go_wp2_with fail
  refine (allocated_none none _ _ ha).mono ?_
  rintro e w1 ⟨rfl, hk1⟩
  have hm1 := Hm.out.kept hk1
  have ha1 := ha.kept hk1
  have hln := obj_len w1 hm1
  clear hlk
  go_wp2_with fail
  refine (makeObject_any none _ w1 ha1).mono ?_
  rintro e w2 ⟨b2, rfl, hb2, hm2, hkp2, ha2⟩
  have hm2' : ObjIs w2 (some b) l := hm1.keep hkp2 (fun c e e2 => by cases e2)
  have hne2 : some b ≠ some b2 := fun e => by injection e with e; have := Hmlt.out; have := hk1.size; omega
  clear hln
  go_wp2_with fail
  refine (copy_obj b2 (some b) l w2 hm2 hm2' hne2).mono ?_
  rintro e w3 ⟨rfl, hkp3, D, hD, hlD⟩
  obtain ⟨w4, hup, hm4, ho4⟩ := run_mapUpdate_assoc strKey Tryz.underlying84 Tryz.underlying9 w3 hD k mk0
  have HD := Lib.hid hlD
  clear hlD
  simp only [strKey] at hup
  go_wp2_with fail
  go_ret2
  have hk04 : Keep (fun i => i = b2) w w4 := (((keep_of_below _ hk1).trans (hkp2.mono fun i _ h => by cases h)).trans hkp3).trans (keep_of_only ho4 rfl)
  refine ⟨b2, _, rfl, Nat.le_trans hk1.size hb2, hm4, fun y => ?_, ?_⟩
  · rw [lkp_aput, HD.out]
  · exact hk04.below (Nat.le_refl _) (fun i e => by have := hk1.size; omega)
end
set_option maxRecDepth 100000
theorem zzObjectToInts_nil (w : World) : Calls Tryz.prog 35 #[.nilIface] w fun e w' => e = .returned (.tuple #[.map none, .bool true, .bool true]) ∧ w = w' := by
  go_enter Tryz.func35, Tryz.ntmps35
  go_wp2
  exact bodyPost_ret (v := .tuple #[.map none, .bool true, .bool true]) (by simp [results, Tryz.results35, go_sem]) rfl ⟨rfl, rfl⟩
theorem kept_then {w w1 w2 : World} {b : Nat} (h : Kept w w1) (k : Keep (· = b) w1 w2) (hb : w.heap.size ≤ b) : Kept w w2 :=
  ((keep_of_below (· = b) h).trans k).below (Nat.le_refl _) (fun i e => by omega)
def DelKeyAns (a0 : Option Addr) (s : Nat → ByteArray) (z : Nat → Int) (n0 : Nat) (key : ByteArray) (w : World) (e : Ending) (w' : World) : Prop :=
  ∃ r lr, e = .returned (.tuple #[.map r, .bool a0.isNone, .bool true, .bool false]) ∧ (ObjIs w' r lr ∧ ND lr ∧ (∀ x, lkp x lr = if x = key then none else (lastI s n0 x).map (fun q => .int .i64 (z q)))) ∧ Kept w w'
theorem obj_mv (s : Nat → ByteArray) (z : Nat → Int) (n0 : Nat) : ∀ x v, lkp x (mapN (fV z) s n0) = some v → ∃ o, v = mv o := fun x v h => by
  obtain ⟨y, rfl⟩ := obj_ints s z n0 x v h
  exact ⟨some y, rfl⟩
theorem sw_lkp (s : Nat → ByteArray) (z : Nat → Int) (n0 : Nat) (x : ByteArray) : sw (lkp x (mapN (fV z) s n0)) = lkp x (mapN (fV z) s n0) := by
  cases h : lkp x (mapN (fV z) s n0) with
  | none => exact sw_none
  | some v =>
    obtain ⟨y, rfl⟩ := obj_ints s z n0 x v h
    exact sw_ib y
set_option maxHeartbeats 2000000 in
theorem ZZDeleteKeyInts_any (hsort : SortOk) (a0 : Option Addr) (n0 c0 : Nat) (s : Nat → ByteArray) (a1 : Option Addr) (c1 : Nat) (z : Nat → Int) (key : ByteArray) (w : World) (hn : n0 ≤ 65536) (h0 : Rd w a0 n0 (fun i => .string (s i))) (h1 : Rd w a1 n0 (fun i => .int .i64 (z i))) :
    Calls Tryz.prog 19 #[.slice a0 n0 c0, .slice a1 n0 c1, .string key] w (DelKeyAns a0 s z n0 key w) := by
  have H0 := Lib.hid h0
  have H1 := Lib.hid h1
  have Hsort := Lib.hid hsort
  clear h0 h1 hsort
  go_enter Tryz.func19, Tryz.ntmps19
  go_wp2_with fail
  refine (zzPairs_rd a0 n0 c0 s a1 c1 z w (by omega) H0.out H1.out).mono ?_
  rintro e w1 ⟨m, rfl, hmn, hmb, hm, hk⟩
  have hle := len_mapN (fV z) s n0
  have HK := Lib.hid hk
  have Hmb := Lib.hid hmb
  have Hmn := Lib.hid hmn
  clear hk hmb hmn
  rcases hm with ⟨rfl, hl0⟩ | ⟨b, rfl, hm⟩
  · have HL := Lib.hid hl0
    clear hl0
    go_wp2_with fail
    refine (updateObject_nilmark key none 0 none w1).mono ?_
    rintro e w2 ⟨rfl, rfl⟩
    go_wp2_with fail
    refine (deleteEmpty_nil _).mono ?_
    rintro e w2 ⟨rfl, rfl⟩
    go_wp2_with fail
    refine (zzObjectToInts_nil _).mono ?_
    rintro e w2 ⟨rfl, rfl⟩
    go_wp2_with fail
    refine bodyPost_ret (v := .tuple #[.map none, .bool true, .bool true, .bool false]) (by simp [results, Tryz.results19, go_sem]) rfl ?_
    refine ⟨none, [], by rw [← Hmn.out]; rfl, ⟨.inl ⟨rfl, rfl⟩, List.nodup_nil, fun x => ?_⟩, HK.out⟩
    have hx : lastI s n0 x = none := by
      have := lkp_mapN (fV z) s n0 x
      rw [HL.out] at this
      cases h : lastI s n0 x with
      | none => rfl
      | some q => rw [h] at this; cases this
    rw [hx]
    simp [lkp]
  · have Hm := Lib.hid hm
    clear hm
    have fin : ∀ (e : Ending) (w4 : World) (wd : World) (D : List (ByteArray × Value)) (r : Option Nat) (lr : List (ByteArray × Value)), Kept w wd → Kept wd w4 → ObjIs w4 r lr → ND lr → (∀ x, lkp x lr = (lkp x D).map unI) → (∀ x, lkp x D = if x = key then none else lkp x (mapN (fV z) s n0)) → e = .returned (.tuple #[.map r, .bool false, .bool true, .bool false]) → DelKeyAns a0 s z n0 key w e w4 := by
      intro e w4 wd D r lr k1 k2 o1 o2 o3 o4 o5
      refine ⟨r, lr, by rw [o5, ← Hmn.out]; rfl, ⟨o1, o2, fun x => ?_⟩, k1.trans k2⟩
      rw [o3 x, o4 x]
      split
      · rfl
      · rw [lkp_mapN, Option.map_map]; rfl
    have Hfin := Lib.hid fin
    clear fin
    cases hx : lkp key (mapN (fV z) s n0) with
    | none =>
      have HX := Lib.hid hx
      clear hx
      go_wp2_with fail
      refine (updateObject_absent b _ key none 0 none w1 Hm.out HX.out).mono ?_
      rintro e w2 ⟨rfl, rfl⟩
      go_wp2_with fail
      refine (deleteEmpty_obj b _ w2 Hm.out (obj_mv s z n0)).mono ?_
      rintro e w3 ⟨rfl, hk3, D, hD, hlD⟩
      have HD := Lib.hid (And.intro hD (And.intro hlD (kept_then HK.out hk3 (Hmb.out b rfl))))
      clear hk3 hD hlD
      go_wp2_with fail
      refine (zzObjectToInts_obj Hsort.out (some b) D w3 (.inr ⟨_, rfl, HD.out.1⟩) (fun x v h => by
        rw [HD.out.2.1 x, sw_lkp] at h
        exact obj_ints s z n0 x v h) (by
        have e : D.length = (mapN (fV z) s n0).length := same_length (mapIs_nd strKey HD.out.1) (nd_mapN _ _ _) fun x => by rw [HD.out.2.1 x, sw_lkp]
        omega)).mono ?_
      rintro e w4 ⟨r, lr, rfl, o1, o2, o3, o4⟩
      have HO := Lib.hid (And.intro o1 (And.intro o2 (And.intro o3 o4)))
      clear o1 o2 o3 o4
      go_wp2_with fail
      refine bodyPost_ret (v := .tuple #[.map r, .bool false, .bool true, .bool false]) (by simp [results, Tryz.results19, go_sem]) rfl ?_
      obtain ⟨o1, o2, o3, o4⟩ := HO.out
      refine Hfin.out _ _ w3 D r lr HD.out.2.2 o4 o1 o2 o3 (fun x => ?_) rfl
      rw [HD.out.2.1 x, sw_lkp]
      split
      · rename_i e; rw [e]; exact HX.out
      · rfl
    | some y =>
      have HX := Lib.hid hx
      clear hx
      go_wp2_with fail
      refine (updateObject_markN b _ key y none 0 w1 Hm.out HX.out (by omega)).mono ?_
      rintro e w2 ⟨b2, D2, rfl, hb2, hm2, hl2, hk2⟩
      have H2 := Lib.hid (And.intro hb2 (And.intro hm2 (And.intro hl2 hk2)))
      have hmv : ∀ x v, lkp x D2 = some v → ∃ o, v = mv o := fun x v h => by
        rw [H2.out.2.2.1 x] at h
        split at h
        · injection h with h; exact ⟨none, h.symm⟩
        · exact obj_mv s z n0 x v h
      have Hmv := Lib.hid hmv
      clear hb2 hm2 hl2 hk2 hmv
      go_wp2_with fail
      refine (deleteEmpty_obj b2 D2 w2 H2.out.2.1 Hmv.out).mono ?_
      rintro e w3 ⟨rfl, hk3, D, hD, hlD⟩
      have hlD2 : ∀ x, lkp x D = if x = key then none else lkp x (mapN (fV z) s n0) := fun x => by
        rw [hlD x, H2.out.2.2.1 x]
        split
        · exact sw_mk
        · exact sw_lkp s z n0 x
      have HD := Lib.hid (And.intro hD (And.intro hlD2 (kept_then (HK.out.trans H2.out.2.2.2) hk3 (Nat.le_trans HK.out.size H2.out.1))))
      clear hk3 hD hlD hlD2
      have hlen : D.length ≤ 1048576 := by
        have h1 := mapIs_nd strKey HD.out.1
        have h2 : D.length ≤ (mapN (fV z) s n0).length := by
          have := nodup_len (D.map (fun p : ByteArray × Value => p.1)) ((mapN (fV z) s n0).map (fun p : ByteArray × Value => p.1)) h1 (fun x hx => by
            rw [mem_keys] at hx ⊢
            rw [HD.out.2.1 x] at hx
            split at hx
            · cases hx
            · exact hx)
          simpa using this
        omega
      go_wp2_with fail
      refine (zzObjectToInts_obj Hsort.out (some b2) D w3 (.inr ⟨_, rfl, HD.out.1⟩) (fun x v h => by
        rw [HD.out.2.1 x] at h
        split at h
        · cases h
        · exact obj_ints s z n0 x v h) hlen).mono ?_
      rintro e w4 ⟨r, lr, rfl, o1, o2, o3, o4⟩
      have HO := Lib.hid (And.intro o1 (And.intro o2 (And.intro o3 o4)))
      clear o1 o2 o3 o4
      go_wp2_with fail
      refine bodyPost_ret (v := .tuple #[.map r, .bool false, .bool true, .bool false]) (by simp [results, Tryz.results19, go_sem]) rfl ?_
      obtain ⟨o1, o2, o3, o4⟩ := HO.out
      exact Hfin.out _ _ w3 D r lr HD.out.2.2 o4 o1 o2 o3 HD.out.2.1 rfl
set_option maxHeartbeats 1000000 in
theorem zzBytes_FnUpdateObjectDeleteKey_any (a0 : Option Addr) (n0 c0 : Nat) (s : Nat → ByteArray) (a1 : Option Addr) (n1 c1 : Nat) (_z : Nat → Int) (key : ByteArray)  (w : World) (h0 : Rd w a0 n0 (fun i => .string (s i))) (m0 : n0 ≤ 9223372036854775807) (m1 : n1 ≤ 9223372036854775807) (mk : key.size ≤ 9223372036854775807) (ms : ∀ i, i < n0 → (s i).size ≤ 9223372036854775807) :
    Calls Tryz.prog 18 #[.slice a0 n0 c0, .slice a1 n1 c1, .string key] w (SomeBool w) := by
  have H0 := Lib.hid h0
  have HS := Lib.hid ms
  clear h0 ms
  by_cases g0 : n0 ≤ 1048576
  rotate_left
  · go_enter Tryz.func18, Tryz.ntmps18
    go_wp2
    go_ret
    exact ⟨false, rfl, rfl⟩
  go_enter Tryz.func18, Tryz.ntmps18
  go_wp2
  go_loop [7, 8] (fun t i => ∃ (k : Nat) (z : Int), k ≤ n0 ∧ i = .int .i64 k ∧ t = .int .i64 z ∧ 0 ≤ z ∧ z ≤ 1048576) (fun _ i => n0 - (intOf i).toNat)
  case atStart => exact ⟨0, _, Nat.zero_le _, rfl, rfl, by omega, by omega⟩
  case round =>
    obtain ⟨k, z, hk, rfl, rfl, hz0, hz1⟩ := hrel
    by_cases hlt : k < n0
    · obtain ⟨b, off, e1, hc⟩ := H0.out.at hlt
      subst e1
      obtain ⟨x, hx⟩ : ∃ x, x = s k := ⟨_, rfl⟩
      have hsz : x.size ≤ 9223372036854775807 := by rw [hx]; exact HS.out k hlt
      rw [← hx] at hc
      clear hx
      by_cases q1 : x.size ≤ 1048576
      rotate_left
      · go_wp2
        go_ret
        exact ⟨false, rfl, rfl⟩
      by_cases q2 : z + x.size ≤ 1048576
      rotate_left
      · go_wp2
        go_ret
        exact ⟨false, rfl, rfl⟩
      go_wp2
      go_round
      case rel => exact ⟨k + 1, z + x.size, by omega, by go_num, rfl, by omega, by omega⟩
      case measure => simp [intOf]; omega
    · by_cases q1 : n1 ≤ 1048576
      rotate_left
      · go_wp2
        go_ret
        exact ⟨false, rfl, rfl⟩
      by_cases q2 : z + n1 ≤ 1048576
      rotate_left
      · go_wp2
        go_ret
        exact ⟨false, rfl, rfl⟩
      by_cases q3 : key.size ≤ 1048576
      rotate_left
      · go_wp2
        go_ret
        exact ⟨false, rfl, rfl⟩
      by_cases q4 : z + n1 + key.size ≤ 1048576
      rotate_left
      · go_wp2
        go_ret
        exact ⟨false, rfl, rfl⟩
      go_wp2
      go_ret
      exact ⟨true, rfl, rfl⟩
set_option maxHeartbeats 8000000 in
theorem FnUpdateObjectDeleteKey_walk (hsort : SortOk) (a0 : Option Addr) (n0 c0 : Nat) (s : Nat → ByteArray) (a1 : Option Addr) (n1 c1 : Nat) (z : Nat → Int) (key : ByteArray)  (w : World) (h0 : Rd w a0 n0 (fun i => .string (s i))) (h1 : Rd w a1 n1 (fun i => .int .i64 (z i))) (m0 : n0 ≤ 9223372036854775807) (m1 : n1 ≤ 9223372036854775807) (mk : key.size ≤ 9223372036854775807) (ms : ∀ i, i < n0 → (s i).size ≤ 9223372036854775807) :
    Calls Tryz.prog 5 #[.slice a0 n0 c0, .slice a1 n1 c1, .string key] w (TrueKept w) := by
  have H0 := Lib.hid h0
  have H1 := Lib.hid h1
  have HS := Lib.hid ms
  have Hsort := Lib.hid hsort
  have hmi := make_intH n0
  clear h0 h1 ms hsort
  go_enter Tryz.func5, Tryz.ntmps5
  go_wp2_with fail
  refine (zzBytes_FnUpdateObjectDeleteKey_any a0 n0 c0 s a1 n1 c1 z key w H0.out m0 m1 mk HS.out).mono ?_
  rintro e w1 ⟨b, rfl, rfl⟩
  cases b with
  | false =>
    go_wp2
    go_ret
    exact ⟨rfl, Below.refl _ _⟩
  | true =>
  by_cases g0 : 65536 < n0
  · go_wp2
    go_ret
    exact ⟨rfl, Below.refl _ _⟩
  by_cases g1 : 65536 < n1
  · go_wp2
    go_ret
    exact ⟨rfl, Below.refl _ _⟩
  by_cases g2 : 65536 < key.size
  · go_wp2
    go_ret
    exact ⟨rfl, Below.refl _ _⟩
  go_wp2_with fail
  go_loop [7, 8] (fun t i => ∃ (k : Nat) (y : Int), k ≤ n0 ∧ i = .int .i64 k ∧ t = .int .i64 y) (fun _ i => n0 - (intOf i).toNat)
  case atStart => exact ⟨0, _, Nat.zero_le _, rfl, rfl⟩
  case round =>
  obtain ⟨k, y, hk, rfl, rfl⟩ := hrel
  by_cases hlt : k < n0
  · obtain ⟨b, off, e1, hc⟩ := H0.out.at hlt
    subst e1
    obtain ⟨x, hx⟩ : ∃ x, x = s k := ⟨_, rfl⟩
    rw [← hx] at hc
    clear hx
    go_wp2
    go_round
    case rel => exact ⟨k + 1, _, by omega, by go_num, rfl⟩
    case measure => simp [intOf]; omega
  have hk2 : (n0 : Int) ≤ (k : Int) := by omega
  by_cases g3 : 1048576 < y
  · go_wp2
    go_ret
    exact ⟨rfl, Below.refl _ _⟩
  by_cases g4 : n0 = n1
  rotate_left
  · have g5 : ((n0 : Int) != (n1 : Int)) = true := by simp; omega
    go_wp2
    go_ret
    exact ⟨rfl, Below.refl _ _⟩
  subst g4
  have g5 : ((n0 : Int) != (n0 : Int)) = false := by simp
  go_wp2_with fail
  clear hlt hk hk2 g1 g3 g5
  refine (zzCloneStrings_rd a0 n0 c0 s w (by omega) H0.out).mono ?_
  rintro e w1 ⟨v, vc, rfl, hvn, hr0, hk1⟩
  have R1 := Lib.hid hr0
  have K1 := Lib.hid hk1
  clear hr0 hk1
  go_wp2_with fail
  refine (zzCloneInts_rd a1 n0 c1 z w1 (by omega) (H1.out.kept K1.out)).mono ?_
  rintro e w2 ⟨u, uc, rfl, hr0, hk2⟩
  have RU := Lib.hid hr0
  have RV := Lib.hid (R1.out.kept hk2)
  have K2 := Lib.hid (K1.out.trans hk2)
  clear hr0 hk2
  go_wp2_with fail
  obtain ⟨W, hW⟩ : ∃ W : World, W = w2.alloc (.map #[] 0) := ⟨_, rfl⟩
  have hk0 : Kept w2 W := by rw [hW]; exact kept_alloc _ _
  have hmA : W.MapIs strKey w2.heap.size [] := by rw [hW]; exact mapIs_new strKey w2
  rw [← hW]
  have HI := Lib.hid (And.intro hk0 hmA)
  clear hk0 hmA hW hmi
  go_loopw [10] (fun i wr => ∃ q : Nat, q ≤ n0 ∧ i = .int .i64 q ∧ Hid (Kept w2 wr ∧ wr.MapIs strKey w2.heap.size (mapN fI s q))) (fun i _ => n0 - (intOf i).toNat)
  case atStart => exact ⟨0, Nat.zero_le _, rfl, HI.out⟩
  case round =>
  obtain ⟨q, hq, rfl, HR⟩ := hrel
  by_cases hlt : q < n0
  · obtain ⟨hk, hA⟩ := HR.out
    obtain ⟨xb, xo, rfl, hc⟩ := (RV.out.kept hk).at hlt
    obtain ⟨x, hx⟩ : ∃ x, x = s q := ⟨_, rfl⟩
    obtain ⟨w3, hu1, hA2, ho2⟩ := run_mapUpdate_assoc strKey (P := Tryz.prog) Tryz.underlying27 Tryz.underlying9 wr hA x (.int .i64 q)
    rw [← hx] at hc
    have HN : Hid (Kept w2 w3 ∧ w3.MapIs strKey w2.heap.size (mapN fI s (q + 1))) := by
      refine ⟨Below.trans hk (ho2.below (Nat.le_refl _)), ?_⟩
      simp only [mapN, ← hx]; exact hA2
    simp only [strKey] at hu1
    clear hx hk hA hA2 ho2 HR
    go_wp2
    go_roundw
    case rel => exact ⟨q + 1, by omega, by go_num, HN.out⟩
    case measure => simp [intOf]; omega
  have hq2 : (n0 : Int) ≤ (q : Int) := by omega
  obtain rfl : q = n0 := by omega
  obtain ⟨hk, hA⟩ := HR.out
  have hlk := run_lookup_assoc strKey (P := Tryz.prog) Tryz.underlying27 Tryz.underlying9 wr hA key _ (zeroInt wr) true
  rw [lkp_mapN] at hlk
  have HM := Lib.hid (And.intro (K2.out.trans hk) hA)
  have RV2 := Lib.hid (RV.out.kept hk)
  have RU2 := Lib.hid (RU.out.kept hk)
  clear hk hA HR HI RV RU K1 K2 R1 hlt hq hq2
  have hle := len_mapN fI s q
  obtain ⟨N, hN⟩ : ∃ N, N = (mapN fI s q).length := ⟨_, rfl⟩
  rw [← hN] at hle
  have HN := Lib.hid hN
  have Hvn := Lib.hid hvn
  clear hN hvn
  have hln := fun ty => run_len_assoc strKey (P := Tryz.prog) Tryz.underlying27 wr HM.out.2 ty
  rw [← HN.out] at hln
  cases hg : lastI s q key
  all_goals
    rw [hg] at hlk
    have HG := Lib.hid hg
    clear hg
    simp only [strKey, Option.map_none, Option.map_some, Option.getD_none, Option.getD_some, Option.isSome_none, Option.isSome_some, if_true] at hlk
    go_wp2_with fail
    refine (ZZDeleteKeyInts_any Hsort.out v q vc s u uc z key wr (by omega) RV2.out RU2.out).mono ?_
    rintro e w4 ⟨r, lr, rfl, ⟨hA, hAn, hAl⟩, hk⟩
    have hL := mapIs_of_block strKey HM.out.2 (hk.block _ (mapIs_lt strKey HM.out.2))
    have e2 : lr.length = if (lastI s q key).isSome = true then N - 1 else N := by
      rw [HN.out]
      have := length_adel key (mapN fI s q)
      rw [lkp_mapN] at this
      simp only [Option.isSome_map] at this
      rw [← this]
      refine same_length hAn (nd_adel _ _ (nd_mapN fI s q)) fun x => ?_
      rw [hAl x, lkp_adel _ _ _ (nd_mapN fI s q), lkp_mapN]
      split <;> simp
    have e3 : (lastI s q key).isSome = true → 1 ≤ N := fun h => by
      have : key ∈ (mapN fI s q).map (·.1) := by rw [mem_keys, lkp_mapN]; simpa using h
      rw [HN.out, ← List.length_map (f := (·.1))]
      exact List.length_pos_of_mem this
    rw [HG.out] at e2 e3
    simp only [Option.isSome_none, Option.isSome_some, Bool.false_eq_true, if_false, if_true, false_imp_iff, forall_const] at e2 e3
    have hlna := fun ty => int_len w4 hA ty
    have hlnl := fun ty => run_len_assoc strKey (P := Tryz.prog) Tryz.underlying27 w4 hL ty
    obtain ⟨M, hM⟩ : ∃ M, M = lr.length := ⟨_, rfl⟩
    rw [← hM] at e2 hlna
    rw [← HN.out] at hlnl
    have k1 := int_lookup w4 hA key
    rw [hAl key, if_pos rfl] at k1
    simp only [Option.getD_none, Option.isSome_none] at k1
    have HZ := Lib.hid (And.intro hA (And.intro hAl hL))
    have HK := Lib.hid (HM.out.1.trans hk)
    have RV4 := Lib.hid (RV2.out.kept hk)
    have RU4 := Lib.hid (RU2.out.kept hk)
    have q1 : ((N : Int) != (N : Int)) = false := by simp
    first
      | have q2 : ((M : Int) != (N : Int) - 1) = false := by simp; omega
      | have q2 : ((M : Int) != (N : Int)) = false := by simp; omega
    clear hA hAn hAl hL hk e2 hln hlk hM
    go_wp2_with fail
    go_loop [20, 21, 22] (fun i _ _ => ∃ p : Nat, p ≤ q ∧ i = .int .i64 p) (fun i _ _ => q - (intOf i).toNat)
    case atStart => exact ⟨0, Nat.zero_le _, rfl⟩
    case round =>
      obtain ⟨p, hp, rfl⟩ := hrel
      by_cases hlt : p < q
      · obtain ⟨hA, hAl, hL⟩ := HZ.out
        obtain ⟨xb, xo, rfl, hc⟩ := RV4.out.at hlt
        obtain ⟨yb, yo, rfl, hcz⟩ := RU4.out.at hlt
        obtain ⟨r2, hr, _, _⟩ := lastI_has s q p hlt
        obtain ⟨x, hx⟩ : ∃ x, x = s p := ⟨_, rfl⟩
        rw [← hx] at hc hr
        have l1 := run_lookup_assoc strKey (P := Tryz.prog) Tryz.underlying27 Tryz.underlying9 w4 hL x _ (zeroInt w4) false
        rw [lkp_mapN, hr] at l1
        simp only [strKey, Bool.false_eq_true, if_false, Option.map_some, Option.getD_some] at l1
        by_cases er : r2 = p
        rotate_left
        · have qr : ((r2 : Int) != (p : Int)) = true := by simp; omega
          clear hx hr hA hAl hL er
          go_wp2
          go_round
          case rel => exact ⟨p + 1, by omega, by go_num⟩
          case measure => simp [intOf]; omega
        subst er
        have qr : ((r2 : Int) != (r2 : Int)) = false := by simp
        have qz : (z r2 != z r2) = false := by simp
        by_cases ex : x = key
        · subst ex
          have qe := beq_yes x
          clear hx hr hA hAl hL
          go_wp2
          go_round
          case rel => exact ⟨r2 + 1, by omega, by go_num⟩
          case measure => simp [intOf]; omega
        · have qe := beq_no ex
          have l3 := int_lookup w4 hA x
          rw [hAl x, if_neg ex, hr] at l3
          simp only [Option.map_some, Option.getD_some, Option.isSome_some] at l3
          clear hx hr hA hAl hL ex
          go_wp2
          go_round
          case rel => exact ⟨r2 + 1, by omega, by go_num⟩
          case measure => simp [intOf]; omega
      · have hp2 : (q : Int) ≤ (p : Int) := by omega
        go_wp2
        go_ret
        exact ⟨rfl, HK.out⟩
end Go.Proofs.YtdlmdmpkjhnbmaaGreatDoor
