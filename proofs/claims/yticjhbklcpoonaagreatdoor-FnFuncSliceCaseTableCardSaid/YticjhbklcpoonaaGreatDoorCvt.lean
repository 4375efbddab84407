/- The laws' clones and converters; slice and funcSlice; ZZfuncSlice at bounds that are ints. -/
import Derived.Test.YticjhbklcpoonaaGreatDoorSls
import Derived.Test.YticjhbklcpoonaaGreatDoorTix
namespace Go.Proofs.YticjhbklcpoonaaGreatDoor
open Go.RowKit Go.Gq
set_option maxRecDepth 100000
def TrueKept (w : World) (e : Ending) (w' : World) : Prop := e = .returned (.bool true) ∧ Kept w w'
theorem tixInt : (Tryz.prog.info? 3).map (fun i => (i.zero, i.size, i.bytes)) = some (some (.int .i64 0), 1, 8) := by kernel_rfl
theorem rd_none {w : World} {n : Nat} {f : Nat → Value} (h : Rd w none n f) : n = 0 := by
  rcases h with h | ⟨b, off, e, h⟩
  · exact h
  · cases e
theorem below_al {B : Nat} {w w' : World} (h : Below B w w') (hB : B ≤ w.heap.size) (o : Obj) : Below B w (w'.alloc o) := h.alloc (Nat.le_trans hB h.size) o
theorem sizeOf_any (W : World) : (sizeOf (Tryz.prog.elem 62)).run Tryz.prog W = .ok 1 W := by
  have h : Tryz.prog.elem 62 = 20 := by kernel_rfl
  rw [h]
  have hs := tixAny
  obtain ⟨i, hi, hz⟩ := Option.map_eq_some_iff.1 hs
  simp only [Prod.mk.injEq] at hz
  unfold sizeOf typeInfo
  simp [hi, hz.2.1, go_sem]
theorem under_any : Tryz.prog.underlying 62 = some (.slice (Tryz.prog.elem 62)) := by kernel_rfl
theorem rd_shift {w : World} {va : Option Addr} {L : Nat} {f : Nat → Value} (h : Rd w va L f) (l n : Nat) (hl : l + n ≤ L) (vc : Nat) (hvc : L ≤ vc) : Rd w (if vc = l then va else va.map (·.add (l * 1))) n (fun t => f (l + t)) := by
  rcases h with h | ⟨b, off, rfl, h⟩
  · exact .inl (by omega)
  · by_cases e : vc = l
    · exact .inl (by omega)
    · refine .inr ⟨b, off + l, ?_, fun i hi => ?_⟩
      · rw [if_neg e]
        simp [Addr.add]
      · have := h (l + i) (by omega)
        rw [show off + l + i = off + (l + i) by omega]
        exact this
/-- v[l:h] -/
theorem cut_lh (va : Option Addr) (L vc : Nat) (l h : Nat) (h1 : l ≤ h) (h2 : h ≤ L) (h3 : L ≤ vc) :
    ∃ va' vc', (∀ W, (Instr.slice 62 (.slice va L vc) (some (.int .i64 (l : Int))) (some (.int .i64 (h : Int))) none).run Tryz.prog W = .ok (.slice va' (h - l) vc') W) ∧ (∀ (w : World) (f : Nat → Value), Rd w va L f → Rd w va' (h - l) (fun t => f (l + t))) ∧ h - l ≤ vc' := by
  refine ⟨if vc = l then va else va.map (·.add (l * 1)), vc - l, fun W => ?_, fun w f hr => rd_shift hr l (h - l) (by omega) vc h3, by omega⟩
  rw [run_slice_lh W 62 va L vc under_any .i64 .i64 l h (by omega) (by omega) (by omega), sizeOf_any]
  simp only [Result.andThen, sliced, Int.toNat_natCast]
set_option maxHeartbeats 4000000 in
theorem slice_any (va : Option Addr) (L vc : Nat) (sv ev : Value) (S E : Option Int) (hS : Ix 80 sv S) (hE : Ix 82 ev E) (w : World) (hv : L ≤ 1048576) (hc : L ≤ vc) :
    Calls Tryz.prog 67 #[.slice va L vc, ev, sv] w fun e w' => ∃ va' vc', e = .returned (.iface 62 (.slice va' (enO L (stO L S) E - stO L S) vc')) ∧ (∀ (w : World) (f : Nat → Value), Rd w va L f → Rd w va' (enO L (stO L S) E - stO L S) (fun t => f (stO L S + t))) ∧ enO L (stO L S) E - stO L S ≤ vc' ∧ Kept w w' := by
  have hst := stO_le L S
  have hen := enO_bd L (stO L S) E hst
  obtain ⟨st, est⟩ : ∃ st, st = stO L S := ⟨_, rfl⟩
  rw [← est] at hst hen ⊢
  obtain ⟨en, een⟩ : ∃ en, en = enO L st E := ⟨_, rfl⟩
  rw [← een] at hen ⊢
  have ES := Lib.hid est
  have EE := Lib.hid een
  have b1 := hst; have b2 := hen.1; have b3 := hen.2
  obtain ⟨va', vc', hcutf, hr, hl⟩ := cut_lh va L vc st en b2 b3 hc
  have HR := Lib.hid (And.intro hr hl)
  clear est een hst hen hr hl
  have hS1 := ix_ne hS
  have hE1 := ix_ne hE
  have hS2 := ix_guard hS
  have hE2 := ix_guard hE
  go_enter Tryz.func67, Tryz.ntmps67
  go_upto_if 14 with fail
  go_cut [7] (fun s7 wx => s7 = .int .i64 (st : Int) ∧ Kept w wx)
  case first =>
    cases S with
    | none =>
      go_wp2_with fail
      go_meet
      have e0 := ES.out
      simp only [stO] at e0
      exact ⟨by rw [e0]; rfl, Below.refl _ _⟩
    | some i =>
      obtain ⟨_, i0, i1, hc⟩ := hS
      go_wp2_with fail
      refine (hc w).mono ?_
      rintro e w2 ⟨rfl, hk2⟩
      have K2 := Lib.hid hk2
      clear hk2 hc
      go_wp2_with fail
      refine (clamp_any i 0 (L : Int) w2 i0 i1 (by omega) (by omega) (by omega)).mono ?_
      rintro e w3 ⟨rfl, rfl⟩
      go_wp2_with fail
      go_meet
      refine ⟨?_, K2.out⟩
      rw [cl_st, ← ES.out]
  case rest =>
  obtain ⟨rfl, hk2⟩ := hcut
  have K2 := Lib.hid hk2
  clear hk2 ES hS hS1 hS2
  go_upto_if 30 with fail
  go_cut [8] (fun s8 wx => s8 = .int .i64 (en : Int) ∧ Kept w wx)
  case first =>
    cases E with
    | none =>
      go_wp2_with fail
      go_meet
      have e0 := EE.out
      simp only [enO] at e0
      exact ⟨by rw [e0], K2.out⟩
    | some i =>
      obtain ⟨_, i0, i1, hc⟩ := hE
      go_wp2_with fail
      refine (hc _).mono ?_
      rintro e w2 ⟨rfl, hk3⟩
      have K3 := Lib.hid (K2.out.trans hk3)
      clear hk3 hc
      go_wp2_with fail
      refine (clamp_any i (st : Int) (L : Int) w2 i0 i1 (by omega) (by omega) (by omega)).mono ?_
      rintro e w3 ⟨rfl, rfl⟩
      go_wp2_with fail
      go_meet
      refine ⟨?_, K3.out⟩
      rw [cl_en b1, ← EE.out]
  case rest =>
  obtain ⟨rfl, hk3⟩ := hcut
  have K3 := Lib.hid hk3
  clear hk3 K2
  go_wp2
  go_ret
  exact ⟨va', vc', rfl, HR.out.1, HR.out.2, K3.out⟩
theorem funcSlice_str (x0 : Value) (v : ByteArray) (sv ev : Value) (S E : Option Int) (hS : Ix 80 sv S) (hE : Ix 82 ev E) (w : World) (hv : v.size ≤ 1048576) :
    Calls Tryz.prog 51 #[x0, sI v, ev, sv] w fun e w' => e = .returned (sI (v.extract (rpos v (stO (rcnt v) S)) (rpos v (enO (rcnt v) (stO (rcnt v) S) E)))) ∧ Kept w w' := by
  go_enter Tryz.func51, Tryz.ntmps51
  go_wp2_with fail
  refine (sliceString_any v sv ev S E hS hE w hv).mono ?_
  rintro e w' ⟨rfl, hk⟩
  have K := Lib.hid hk
  clear hk
  go_wp2
  go_ret
  exact ⟨rfl, K.out⟩
theorem funcSlice_arr (x0 : Value) (va : Option Addr) (L vc : Nat) (sv ev : Value) (S E : Option Int) (hS : Ix 80 sv S) (hE : Ix 82 ev E) (w : World) (hv : L ≤ 1048576) (hc : L ≤ vc) :
    Calls Tryz.prog 51 #[x0, .iface 62 (.slice va L vc), ev, sv] w fun e w' => ∃ va' vc', e = .returned (.iface 62 (.slice va' (enO L (stO L S) E - stO L S) vc')) ∧ (∀ (w : World) (f : Nat → Value), Rd w va L f → Rd w va' (enO L (stO L S) E - stO L S) (fun t => f (stO L S + t))) ∧ enO L (stO L S) E - stO L S ≤ vc' ∧ Kept w w' := by
  go_enter Tryz.func51, Tryz.ntmps51
  go_wp2_with fail
  refine (slice_any va L vc sv ev S E hS hE w hv hc).mono ?_
  rintro e w' ⟨va', vc', rfl, h1, h2, h3⟩
  have K := Lib.hid (And.intro h1 (And.intro h2 h3))
  clear h1 h2 h3
  go_wp2
  go_ret
  exact ⟨_, _, rfl, K.out⟩
section
attribute [local go_sem] Lib.run_eql_slice_nil
set_option maxHeartbeats 1000000 in
theorem clone_any (a : Option Addr) (n c : Nat) (z : Nat → Int) (w : World) (hn : n ≤ 1048576) (h : Rd w a n (fun i => .int .i64 (z i))) :
    Calls Tryz.prog 27 #[.slice a n c] w fun e w' => ∃ a' c', e = .returned (.slice a' n c') ∧ Rd w' a' n (fun i => .int .i64 (z i)) ∧ Kept w w' := by
  cases a with
  | none =>
    obtain rfl := rd_none h
    go_enter Tryz.func27, Tryz.ntmps27
    go_wp2
    go_ret
    exact ⟨none, 0, rfl, .inl rfl, Below.refl _ _⟩
  | some x =>
    have hmk := make_gen 64 3 Tryz.underlying64 tixInt rfl (by omega) n n (Nat.le_refl _) (by omega)
    go_enter Tryz.func27, Tryz.ntmps27
    go_wp2
    obtain ⟨W, HW⟩ : ∃ W : World, W = w.alloc (.cells (madeCells #[Value.int .i64 0] n) 3) := ⟨_, rfl⟩
    have hrow : W.rowIs w.heap.size 3 n (fun _ => Value.int .i64 0) := by rw [HW]; exact World.rowIs_made w _ n 3
    have hk : Kept w W := by rw [HW]; exact kept_alloc _ _
    rw [← HW]
    clear HW hmk
    go_loopw [4] (fun i wr => ∃ k : Nat, k ≤ n ∧ i = .int .i64 k ∧ wr.rowIs w.heap.size 3 n (fun j => if j < k then Value.int .i64 (z j) else Value.int .i64 0) ∧ Kept w wr) (fun i _ => n - (intOf i).toNat)
    case atStart => exact ⟨0, Nat.zero_le _, rfl, by simpa using hrow, hk⟩
    case round =>
      obtain ⟨k, hk, rfl, hrow, hkp⟩ := hrel
      by_cases hlt : k < n
      · obtain ⟨b, off, hx, hc⟩ := (h.kept hkp).at hlt
        injection hx with hx
        subst hx
        have hd := hrow.cell hlt
        have hz := hrow.frozen k
        have hset := (hrow.set k (Value.int .i64 (z k))).congr (g := fun j => if j < k + 1 then Value.int .i64 (z j) else Value.int .i64 0) (fun j hj => by
          by_cases e : j = k
          · subst e; simp
          · simp only [if_neg e]; by_cases e2 : j < k
            · rw [if_pos e2, if_pos (by omega)]
            · rw [if_neg e2, if_neg (by omega)])
        have hkp2 := hkp.setCell (p := ⟨w.heap.size, k, none⟩) (Nat.le_refl _) (Value.int .i64 (z k))
        have Hset := Lib.hid hset
        have Hkp := Lib.hid hkp2
        simp only [Nat.lt_irrefl, if_false] at hd
        clear hset hkp2 hrow hkp h
        go_wp2
        go_roundw
        case rel => exact ⟨k + 1, by omega, by go_num, Hset.out, Hkp.out⟩
        case measure => simp [intOf]; omega
      · obtain rfl : k = n := by omega
        go_wp2
        go_ret
        exact ⟨_, _, rfl, rd_row (hrow.congr fun i hi => by simp [hi]), hkp⟩
set_option maxHeartbeats 1000000 in
theorem anyInts_any (a : Option Addr) (n c : Nat) (z : Nat → Int) (w : World) (hn : n ≤ 1048576) (h : Rd w a n (fun i => .int .i64 (z i))) :
    Calls Tryz.prog 69 #[.slice a n c] w fun e w' => ∃ a' c', e = .returned (.slice a' n c') ∧ n ≤ c' ∧ Rd w' a' n (fun i => iI (z i)) ∧ Kept w w' := by
  cases a with
  | none =>
    obtain rfl := rd_none h
    go_enter Tryz.func69, Tryz.ntmps69
    go_wp2
    go_ret
    exact ⟨none, 0, rfl, Nat.le_refl _, .inl rfl, Below.refl _ _⟩
  | some x =>
    have hmk := make_gen 62 20 Tryz.underlying62 tixAny rfl (by omega) n n (Nat.le_refl _) (by omega)
    go_enter Tryz.func69, Tryz.ntmps69
    go_wp2
    obtain ⟨W, HW⟩ : ∃ W : World, W = w.alloc (.cells (madeCells #[.nilIface] n) 20) := ⟨_, rfl⟩
    have hrow : W.rowIs w.heap.size 20 n (fun _ => .nilIface) := by rw [HW]; exact World.rowIs_made w _ n 20
    have hk : Kept w W := by rw [HW]; exact kept_alloc _ _
    rw [← HW]
    clear HW hmk
    go_loopw [4, 13] (fun _ i wr => ∃ k : Nat, k ≤ n ∧ i = .int .i64 k ∧ wr.rowIs w.heap.size 20 n (fun j => if j < k then iI (z j) else .nilIface) ∧ Kept w wr) (fun _ i _ => n - (intOf i).toNat)
    case atStart => exact ⟨0, Nat.zero_le _, rfl, by simpa using hrow, hk⟩
    case round =>
      obtain ⟨k, hk, rfl, hrow, hkp⟩ := hrel
      by_cases hlt : k < n
      · obtain ⟨b, off, hx, hc⟩ := (h.kept hkp).at hlt
        injection hx with hx
        subst hx
        have hd := hrow.cell hlt
        have hz := hrow.frozen k
        have hset := (hrow.set k (iI (z k))).congr (g := fun j => if j < k + 1 then iI (z j) else .nilIface) (fun j hj => by
          by_cases e : j = k
          · subst e; simp
          · simp only [if_neg e]; by_cases e2 : j < k
            · rw [if_pos e2, if_pos (by omega)]
            · rw [if_neg e2, if_neg (by omega)])
        have hkp2 := hkp.setCell (p := ⟨w.heap.size, k, none⟩) (Nat.le_refl _) (iI (z k))
        have Hset := Lib.hid hset
        have Hkp := Lib.hid hkp2
        simp only [Nat.lt_irrefl, if_false] at hd
        clear hset hkp2 hrow hkp h
        go_wp2
        go_roundw
        case rel => exact ⟨k + 1, by omega, by go_num, Hset.out, Hkp.out⟩
        case measure => simp [intOf]; omega
      · obtain rfl : k = n := by omega
        go_wp2
        go_ret
        exact ⟨_, _, rfl, Nat.le_refl _, rd_row (hrow.congr fun i hi => by simp [hi]), hkp⟩
end
set_option maxHeartbeats 2000000 in
theorem intsAny_any (a : Option Addr) (n c : Nat) (z : Nat → Int) (w : World) (hn : n ≤ 1048576) (h : Rd w a n (fun i => iI (z i))) :
    Calls Tryz.prog 54 #[.slice a n c] w fun e w' => ∃ a' c', e = .returned (.slice a' n c') ∧ Rd w' a' n (fun i => .int .i64 (z i)) ∧ Kept w w' := by
  have H0 := Lib.hid h
  have hmk : ∀ W : World, (Instr.makeSlice 64 (.int .i64 0) (.int .i64 (n : Int))).run Tryz.prog W = .ok (.slice (some ⟨W.heap.size, 0, none⟩) 0 n) (W.alloc (.cells (madeCells #[.int .i64 0] n) 3)) := fun W => make_gen 64 3 Tryz.underlying64 tixInt rfl (by omega) 0 n (Nat.zero_le _) (by omega) W
  clear h
  go_enter Tryz.func54, Tryz.ntmps54
  go_wp2
  obtain ⟨W, HW⟩ : ∃ W : World, W = w.alloc (.cells (madeCells #[Value.int .i64 0] n) 3) := ⟨_, rfl⟩
  have HI : Hid (Below w.heap.size w W ∧ W.ownsRow w.heap.size 3 1 (.slice (some ⟨w.heap.size, 0, none⟩) 0 n) 0 []) := by
    rw [HW]
    exact ⟨kept_alloc _ _, World.ownsRow_made w _ n (Nat.le_refl _) (by simp only [maxLen]; omega) (made_size _ _)⟩
  rw [← HW]
  clear HW hmk
  go_loopw [3, 13] (fun x i wr => ∃ (k g cap : Nat), k ≤ n ∧ i = .int .i64 k ∧ x = .slice (some ⟨g, 0, none⟩) k cap ∧ Hid (Below w.heap.size w wr ∧ wr.ownsRow w.heap.size 3 1 (.slice (some ⟨g, 0, none⟩) k cap) k ((List.range k).map (fun j => Value.int .i64 (z j))))) (fun _ i _ => n - (intOf i).toNat)
  case atStart => exact ⟨0, w.heap.size, n, Nat.zero_le _, rfl, rfl, HI.out.1, HI.out.2⟩
  case round =>
  obtain ⟨k, g, cap, hk, rfl, rfl, HR⟩ := hrel
  obtain ⟨hb, ho⟩ := HR.out
  by_cases hlt : k < n
  · obtain ⟨xb, xo, e1, hc0⟩ := (H0.out.kept hb).at hlt
    subst e1
    obtain ⟨x, hx⟩ : ∃ x, x = z k := ⟨_, rfl⟩
    rw [← hx] at hc0
    have HX := Lib.hid hx
    have q4 : (0 : Int) ≤ (k : Int) := by omega
    have q5 : (k : Int) < (n : Int) := by omega
    have hc := cell_fresh wr #[Value.int .i64 x] 3 0 (Value.int .i64 x) rfl
    have hb3 := below_al hb (Nat.le_refl _) (.cells #[Value.int .i64 x] 3)
    have hB2 : w.heap.size ≤ (wr.alloc (.cells #[Value.int .i64 x] 3)).heap.size := hb3.size
    have hown2 := own_alloc ho (.cells #[Value.int .i64 x] 3)
    have HW := Lib.hid hb3
    clear hx HR HI hb hb3 ho
    go_wp2_with (first
      | (at_builtin; refine wpl_app1 rfl _ _ 64 3 rfl Tryz.underlying64 tixInt rfl (by omega) w.heap.size _ (.slice (some ⟨g, 0, none⟩) k cap) k _ rfl hown2 wr.heap.size (Value.int .i64 x) rfl hc rfl (by omega) hB2 ?_; intro g2 cap2 w2 ho2 hb2))
    have HZ := Lib.hid (And.intro ho2 hb2)
    clear ho2 hb2 hown2 hc hB2
    go_roundw
    case rel =>
      refine ⟨k + 1, g2, cap2, by omega, by go_num, rfl, HW.out.trans HZ.out.2, ?_⟩
      rw [List.range_succ, List.map_append, List.map_singleton, ← HX.out]
      exact HZ.out.1
    case measure => simp [intOf]; omega
  obtain rfl : k = n := by omega
  have HB := Lib.hid (And.intro hb ho)
  clear hb ho HR HI hlt hk
  go_wp2
  go_ret
  exact ⟨_, _, rfl, (own_rd HB.out.2 rfl _ fun i hi => by simp [hi]).2, HB.out.1⟩
end Go.Proofs.YticjhbklcpoonaaGreatDoor
