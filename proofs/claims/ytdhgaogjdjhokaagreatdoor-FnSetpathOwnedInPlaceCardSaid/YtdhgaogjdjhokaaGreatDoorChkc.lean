/- The contract of zzObjectOK: true where the view shows the object that it asks for. -/
import Derived.Test.YtdhgaogjdjhokaaGreatDoorChkb
namespace Go.Proofs.YtdhgaogjdjhokaaGreatDoor
open Go.RowKit Go.Gq
set_option maxRecDepth 100000
theorem len_set {l L0 : List (ByteArray × Value)} {key : ByteArray} {v : Value} (h : ND l) (h0 : ND L0) (hl : ∀ x, lkp x l = if x = key then some v else lkp x L0) : l.length = if (lkp key L0).isSome then L0.length else L0.length + 1 := by
  rw [← length_aput key v L0]
  refine same_length h (nd_aput _ _ _ h0) fun x => ?_
  rw [hl x, lkp_aput]
set_option maxHeartbeats 4000000 in
theorem zzObjectOK_null (a0 : Option Addr) (n0 c0 : Nat) (ss : List ByteArray) (a1 : Option Addr) (n1 c1 : Nat) (key : ByteArray) (n : Int) (l : List (ByteArray × Value)) (ah av : Addr) (kind : Int) (w : World) (hn1 : n1 ≤ 65536) (hkind : (kind == 2) = false)
    (hH : Rd w (some ah) (n1 + 1) (fun i => .bool (lkp (kk ss n1 key i) l).isSome)) (hV : Rd w (some av) (n1 + 1) (fun i => .int .i64 (iv (lkp (kk ss n1 key i) l)))) (hnd : ND l) (hl : ∀ x, lkp x l = if x = key then some (ia n) else none) :
    Calls Tryz.prog 31 #[.int .i64 kind, .slice a0 n0 c0, .slice a1 n1 c1, .string key, .int .i64 n, vagg 2 none 0 0 none 0 0 l.length (some ah) (n1 + 1) (n1 + 1) (some av) (n1 + 1) (n1 + 1)] w (TrueKept w) := by
  have hlen : l.length = 1 := len_set (L0 := []) hnd List.nodup_nil hl
  rw [hlen]
  show Calls _ _ #[_, _, _, _, _, .agg #[.int .i64 2, .slice none 0 0, .slice none 0 0, .int .i64 1, .slice (some ah) (n1 + 1) (n1 + 1), .slice (some av) (n1 + 1) (n1 + 1)]] _ _
  have hkk : kk ss n1 key n1 = key := by unfold kk; rw [if_neg (Nat.lt_irrefl _)]
  have hlk : lkp key l = some (ia n) := by rw [hl, if_pos rfl]
  obtain ⟨b1, o1, e1, hc1⟩ := hH.at (k := n1) (by omega)
  obtain ⟨b2, o2, e2, hc2⟩ := hV.at (k := n1) (by omega)
  injection e1 with e1
  injection e2 with e2
  subst e1 e2
  simp only [hkk, hlk, Option.isSome_some, ia, iv] at hc1 hc2
  obtain ⟨W, HW⟩ : ∃ W : World, W = w.alloc (.cells #[.int .i64 2, .slice none 0 0, .slice none 0 0, .int .i64 1, .slice (some { block := b1, off := o1 }) (n1 + 1) (n1 + 1), .slice (some { block := b2, off := o2 }) (n1 + 1) (n1 + 1)] 31) := ⟨_, rfl⟩
  have hrow : W.rowIs w.heap.size 31 6 (fun j => [Value.int .i64 2, .slice none 0 0, .slice none 0 0, .int .i64 1, .slice (some { block := b1, off := o1 }) (n1 + 1) (n1 + 1), .slice (some { block := b2, off := o2 }) (n1 + 1) (n1 + 1)].getD j undef) := by rw [HW]; exact row_of (l := [_, _, _, _, _, _]) (heap_alloc_new w _)
  have hk0 : Kept w W := by rw [HW]; exact kept_alloc _ _
  replace hc1 := kept_cell hk0 hc1
  replace hc2 := kept_cell hk0 hc2
  have s0 := hrow.cell (i := 0) (by omega)
  have s3 := hrow.cell (i := 3) (by omega)
  have s4 := hrow.cell (i := 4) (by omega)
  have s5 := hrow.cell (i := 5) (by omega)
  simp only [List.getD_cons_succ, List.getD_cons_zero] at s0 s3 s4 s5
  have HW' := HW.symm
  have HK := Lib.hid hk0
  have q1 : ((n1 : Int) + 1 != (n1 : Int) + 1) = false := by simp
  have q2 : (n == n) = true := by simp
  have q3 : (n1 : Int) < ((n1 + 1 : Nat) : Int) := by omega
  clear hlen hkk hlk hl hnd hH hV hk0 HW hrow
  go_enter Tryz.func31, Tryz.ntmps31
  go_wp2
  go_ret
  exact ⟨rfl, HK.out⟩
set_option maxHeartbeats 4000000 in
theorem zzObjectOK_obj (a0 : Option Addr) (n0 c0 : Nat) (xs : List Int) (ss : List ByteArray) (a1 : Option Addr) (c1 : Nat) (key : ByteArray) (n : Int) (l : List (ByteArray × Value)) (ah av : Addr) (w : World) (hn0 : n0 ≤ 65536) (h0 : Rd w a0 n0 (vi xs)) (h1 : Rd w a1 n0 (vs ss))
    (hH : Rd w (some ah) (n0 + 1) (fun i => .bool (lkp (kk ss n0 key i) l).isSome)) (hV : Rd w (some av) (n0 + 1) (fun i => .int .i64 (iv (lkp (kk ss n0 key i) l)))) (hnd : ND l) (hl : ∀ x, lkp x l = if x = key then some (ia n) else lkp x (objL ss xs n0)) :
    Calls Tryz.prog 31 #[.int .i64 2, .slice a0 n0 c0, .slice a1 n0 c1, .string key, .int .i64 n, vagg 2 none 0 0 none 0 0 l.length (some ah) (n0 + 1) (n0 + 1) (some av) (n0 + 1) (n0 + 1)] w (TrueKept w) := by
  have hlen := len_set hnd (objL_nd ss xs n0) hl
  have hle := objL_len ss xs n0
  unfold vagg
  obtain ⟨W, HW⟩ : ∃ W : World, W = w.alloc (.cells #[.int .i64 2, .slice none 0 0, .slice none 0 0, .int .i64 (l.length : Int), .slice (some ah) (n0 + 1) (n0 + 1), .slice (some av) (n0 + 1) (n0 + 1)] 31) := ⟨_, rfl⟩
  have hrow : W.rowIs w.heap.size 31 6 (fun j => [Value.int .i64 2, .slice none 0 0, .slice none 0 0, .int .i64 (l.length : Int), .slice (some ah) (n0 + 1) (n0 + 1), .slice (some av) (n0 + 1) (n0 + 1)].getD j undef) := by rw [HW]; exact row_of (l := [_, _, _, _, _, _]) (heap_alloc_new w _)
  have hk0 : Kept w W := by rw [HW]; exact kept_alloc _ _
  have s0 := hrow.cell (i := 0) (by omega)
  have s3 := hrow.cell (i := 3) (by omega)
  have s4 := hrow.cell (i := 4) (by omega)
  have s5 := hrow.cell (i := 5) (by omega)
  simp only [List.getD_cons_succ, List.getD_cons_zero] at s0 s3 s4 s5
  have h0' := h0.kept hk0
  have h1' := h1.kept hk0
  have hH' := hH.kept hk0
  have hV' := hV.kept hk0
  have q1 : ((n0 : Int) + 1 != (n0 : Int) + 1) = false := by simp
  have HN : Hid (l.length = if (lkp key (objL ss xs n0)).isSome then (objL ss xs n0).length else (objL ss xs n0).length + 1) := hlen
  obtain ⟨dl, hdl⟩ : ∃ dl, dl = (objL ss xs n0).length := ⟨_, rfl⟩
  obtain ⟨nl, hnl⟩ : ∃ nl, nl = l.length := ⟨_, rfl⟩
  rw [← hnl] at HW s3
  rw [← hnl]
  have HDL := Lib.hid hdl
  have HNL := Lib.hid hnl
  have HW' := HW.symm
  have Hl := Lib.hid hl
  have hdle : dl ≤ n0 := by rw [hdl]; exact hle
  clear hlen hle hdl hnl hl hH hV h0 h1 HW hrow hnd
  go_enter Tryz.func31, Tryz.ntmps31
  go_wp2_with fail
  refine (zzDistinct_any a1 n0 c1 xs ss _ h1' hn0).mono ?_
  rintro e w1 ⟨rfl, m1, rfl⟩
  rw [← HDL.out]
  have h0d := h0'.drewN m1
  have h1d := h1'.drewN m1
  go_wp2_with fail
  refine (zzLastValue_any a0 n0 c0 a1 c1 xs ss key _ h0d h1d hn0).mono ?_
  rintro e w1 ⟨rfl, rfl⟩
  have HO := Lib.hid (objL_has ss xs n0)
  have q2 : (n == n) = true := by simp
  obtain ⟨fd, hfd⟩ : ∃ fd, fd = (lkp key (objL ss xs n0)).isSome := ⟨_, rfl⟩
  obtain ⟨fi, hfi⟩ : ∃ fi, fi = iv (lkp key (objL ss xs n0)) := ⟨_, rfl⟩
  rw [← hfd, ← hfi]
  obtain ⟨b1, o1, e1, hc1⟩ := hH'.at (k := n0) (by omega)
  obtain ⟨b2, o2, e2, hc2⟩ := hV'.at (k := n0) (by omega)
  injection e1 with e1
  injection e2 with e2
  subst e1 e2
  have hkk : kk ss n0 key n0 = key := by unfold kk; rw [if_neg (Nat.lt_irrefl _)]
  have hlk : lkp key l = some (ia n) := by rw [Hl.out, if_pos rfl]
  simp only [hkk, hlk, Option.isSome_some, ia, iv] at hc1 hc2
  have HC1 := Lib.hid hc1
  have HC2 := Lib.hid hc2
  have HK := Lib.hid hk0
  have HNf : Hid (nl = if fd then dl else dl + 1) := by
    have h9 := HN.out
    rw [← HNL.out, ← HDL.out, ← hfd] at h9
    exact h9
  clear hkk hlk hc1 hc2 hk0 hfd hfi HN HDL HNL
  cases fd with
  | true =>
    have q9 : ((nl : Int) == (dl : Int)) = true := by have := HNf.out; simp at this; simp [this]
    clear HNf
    go_wp2_with fail
    go_loopw [16] (fun i wr => ∃ (k m : Nat), k ≤ n0 ∧ i = .int .i64 k ∧ wr = W.drewN m) (fun i _ => n0 - (intOf i).toNat)
    case atStart => exact ⟨0, m1, Nat.zero_le _, rfl, rfl⟩
    case round =>
      obtain ⟨k, m, hk, rfl, rfl⟩ := hrel
      by_cases hlt : k < n0
      · obtain ⟨b3, o3, e3, hc3⟩ := h1'.at hlt
        subst e3
        obtain ⟨s, hs⟩ : ∃ s, s = ss.getD k ByteArray.empty := ⟨_, rfl⟩
        simp only [vs, ← hs] at hc3
        have q4 : (0 : Int) ≤ (k : Int) := by omega
        have q5 : (k : Int) < (n0 : Int) := by omega
        have q6 : (k : Int) < (n0 : Int) + 1 := by omega
        by_cases e : s = key
        · subst e
          have hb := beq_yes s
          clear hs h0' h1' hH' hV' h0d h1d
          go_wp2
          go_roundw
          case rel => exact ⟨k + 1, _, by omega, by go_num, rfl⟩
          case measure => simp [intOf]; omega
        · have hb := beq_no e
          obtain ⟨b4, o4, e4, hc4⟩ := hH'.at (k := k) (by omega)
          obtain ⟨b5, o5, e5, hc5⟩ := hV'.at (k := k) (by omega)
          injection e4 with e4
          injection e5 with e5
          injection e4 with e6 e7
          injection e5 with e8 e9
          subst e6 e7 e8 e9
          have hkk : kk ss n0 key k = s := by unfold kk; rw [if_pos hlt, hs]
          have hlk : lkp s l = lkp s (objL ss xs n0) := by rw [Hl.out, if_neg e]
          have hso : (lkp s (objL ss xs n0)).isSome = true := by rw [hs]; exact HO.out k hlt
          obtain ⟨z, hz⟩ : ∃ z, z = iv (lkp s (objL ss xs n0)) := ⟨_, rfl⟩
          simp only [hkk, hlk, hso, ← hz] at hc4 hc5
          have q7 : (z != z) = false := by simp
          have h0e := Lib.hid (h0'.drewN m)
          have h1e := Lib.hid (h1'.drewN m)
          have HS := Lib.hid hso
          have HZ := Lib.hid hz
          clear hs h0' h1' hH' hV' h0d h1d hkk hlk hso hz e
          go_wp2_with fail
          refine (zzLastValue_any a0 n0 c0 _ c1 xs ss s _ h0e.out h1e.out hn0).mono ?_
          rintro e w1 ⟨rfl, rfl⟩
          rw [HS.out, ← HZ.out]
          go_wp2
          go_roundw
          case rel => exact ⟨k + 1, _, by omega, by go_num, rfl⟩
          case measure => simp [intOf]; omega
      · have : k = n0 := by omega
        subst this
        have hc1 := HC1.out
        have hc2 := HC2.out
        clear h0' h1' hH' hV' h0d h1d HC1 HC2
        go_wp2
        go_ret
        exact ⟨rfl, HK.out.trans (kept_drewN _ _)⟩
  | false =>
    have q9 : ((nl : Int) == (dl : Int) + 1) = true := by have := HNf.out; simp at this; simp [this]
    clear HNf
    go_wp2_with fail
    go_loopw [16] (fun i wr => ∃ (k m : Nat), k ≤ n0 ∧ i = .int .i64 k ∧ wr = W.drewN m) (fun i _ => n0 - (intOf i).toNat)
    case atStart => exact ⟨0, m1, Nat.zero_le _, rfl, rfl⟩
    case round =>
      obtain ⟨k, m, hk, rfl, rfl⟩ := hrel
      by_cases hlt : k < n0
      · obtain ⟨b3, o3, e3, hc3⟩ := h1'.at hlt
        subst e3
        obtain ⟨s, hs⟩ : ∃ s, s = ss.getD k ByteArray.empty := ⟨_, rfl⟩
        simp only [vs, ← hs] at hc3
        have q4 : (0 : Int) ≤ (k : Int) := by omega
        have q5 : (k : Int) < (n0 : Int) := by omega
        have q6 : (k : Int) < (n0 : Int) + 1 := by omega
        by_cases e : s = key
        · subst e
          have hb := beq_yes s
          clear hs h0' h1' hH' hV' h0d h1d
          go_wp2
          go_roundw
          case rel => exact ⟨k + 1, _, by omega, by go_num, rfl⟩
          case measure => simp [intOf]; omega
        · have hb := beq_no e
          obtain ⟨b4, o4, e4, hc4⟩ := hH'.at (k := k) (by omega)
          obtain ⟨b5, o5, e5, hc5⟩ := hV'.at (k := k) (by omega)
          injection e4 with e4
          injection e5 with e5
          injection e4 with e6 e7
          injection e5 with e8 e9
          subst e6 e7 e8 e9
          have hkk : kk ss n0 key k = s := by unfold kk; rw [if_pos hlt, hs]
          have hlk : lkp s l = lkp s (objL ss xs n0) := by rw [Hl.out, if_neg e]
          have hso : (lkp s (objL ss xs n0)).isSome = true := by rw [hs]; exact HO.out k hlt
          obtain ⟨z, hz⟩ : ∃ z, z = iv (lkp s (objL ss xs n0)) := ⟨_, rfl⟩
          simp only [hkk, hlk, hso, ← hz] at hc4 hc5
          have q7 : (z != z) = false := by simp
          have h0e := Lib.hid (h0'.drewN m)
          have h1e := Lib.hid (h1'.drewN m)
          have HS := Lib.hid hso
          have HZ := Lib.hid hz
          clear hs h0' h1' hH' hV' h0d h1d hkk hlk hso hz e
          go_wp2_with fail
          refine (zzLastValue_any a0 n0 c0 _ c1 xs ss s _ h0e.out h1e.out hn0).mono ?_
          rintro e w1 ⟨rfl, rfl⟩
          rw [HS.out, ← HZ.out]
          go_wp2
          go_roundw
          case rel => exact ⟨k + 1, _, by omega, by go_num, rfl⟩
          case measure => simp [intOf]; omega
      · have : k = n0 := by omega
        subst this
        have hc1 := HC1.out
        have hc2 := HC2.out
        clear h0' h1' hH' hV' h0d h1d HC1 HC2
        go_wp2
        go_ret
        exact ⟨rfl, HK.out.trans (kept_drewN _ _)⟩
end Go.Proofs.YtdhgaogjdjhokaaGreatDoor
