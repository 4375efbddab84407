/- The contract of zzSameDoc: true where the view shows the document. -/
import Derived.Test.YtdhgaogjdjhokaaGreatDoorMatchb
import Derived.BigQuiet
import Derived.Deep.QuietTactic
namespace Go.Proofs.YtdhgaogjdjhokaaGreatDoor
open Go.RowKit Go.Gq
set_option maxRecDepth 100000
/-- zzSameDoc, called. -/
abbrev Sam (kind : Int) (a0 : Option Addr) (n0 c0 : Nat) (a1 : Option Addr) (n1 c1 : Nat) (r : Value) (w : World) : Prop :=
  Calls Tryz.prog 18 #[.int .i64 kind, .slice a0 n0 c0, .slice a1 n1 c1, r] w (TrueKept w)
set_option maxHeartbeats 2000000 in
theorem sam_0 (a0 : Option Addr) (n0 c0 : Nat) (a1 : Option Addr) (n1 c1 : Nat) (w : World) : Sam 0 a0 n0 c0 a1 n1 c1 (vagg 0 none 0 0 none 0 0 0 none 0 0 none 0 0) w := by
  unfold Sam vagg
  have HK := Lib.hid (kept_alloc w (.cells #[.int .i64 0, .slice none 0 0, .slice none 0 0, .int .i64 0, .slice none 0 0, .slice none 0 0] 31))
  go_enter Tryz.func18, Tryz.ntmps18
  go_wp2
  go_ret
  exact ⟨rfl, HK.out⟩
set_option maxHeartbeats 2000000 in
theorem sam_3 (a0 : Option Addr) (n0 c0 : Nat) (a1 : Option Addr) (n1 c1 : Nat) (ai : Addr) (w : World) (h : Rd w (some ai) 1 (fun _ => .int .i64 0)) : Sam 3 a0 n0 c0 a1 n1 c1 (vagg 3 (some ai) 1 1 none 0 0 0 none 0 0 none 0 0) w := by
  unfold Sam vagg
  have hk := kept_alloc w (.cells #[.int .i64 3, .slice (some ai) 1 1, .slice none 0 0, .int .i64 0, .slice none 0 0, .slice none 0 0] 31)
  obtain ⟨b, o, e, hc⟩ := (h.kept hk).at (k := 0) (by omega)
  injection e with e
  subst e
  simp only [Nat.add_zero] at hc
  have HK := Lib.hid hk
  clear hk h
  go_enter Tryz.func18, Tryz.ntmps18
  go_wp2
  go_ret
  exact ⟨rfl, HK.out⟩
set_option maxHeartbeats 4000000 in
theorem sam_1 (a0 : Option Addr) (n0 c0 : Nat) (a1 : Option Addr) (n1 c1 : Nat) (ai an : Addr) (w : World)
    (ho : ∀ w', Kept w w' → AOK a0 n0 c0 n0 (-1) 0 n0 (vagg 1 (some ai) n0 n0 (some an) n0 n0 0 none 0 0 none 0 0) w') :
    Sam 1 a0 n0 c0 a1 n1 c1 (vagg 1 (some ai) n0 n0 (some an) n0 n0 0 none 0 0 none 0 0) w := by
  unfold AOK vagg at ho
  unfold Sam vagg
  have HK := Lib.hid (kept_alloc w (.cells #[.int .i64 1, .slice (some ai) n0 n0, .slice (some an) n0 n0, .int .i64 0, .slice none 0 0, .slice none 0 0] 31))
  have HO := Lib.hid ho
  clear ho
  go_enter Tryz.func18, Tryz.ntmps18
  go_wp2_with fail
  refine (HO.out _ HK.out).mono ?_
  rintro e w1 ⟨rfl, hk1⟩
  have HK1 := Lib.hid (HK.out.trans hk1)
  clear hk1
  go_wp2
  go_ret
  exact ⟨rfl, HK1.out⟩
set_option maxHeartbeats 4000000 in
theorem sam_2 (a0 : Option Addr) (n0 c0 : Nat) (xs : List Int) (ss : List ByteArray) (a1 : Option Addr) (c1 : Nat) (key : ByteArray) (ah av : Addr) (w : World) (hn0 : n0 ≤ 65536) (h0 : Rd w a0 n0 (vi xs)) (h1 : Rd w a1 n0 (vs ss))
    (hH : Rd w (some ah) (n0 + 1) (fun i => .bool (lkp (kk ss n0 key i) (objL ss xs n0)).isSome)) (hV : Rd w (some av) (n0 + 1) (fun i => .int .i64 (iv (lkp (kk ss n0 key i) (objL ss xs n0))))) :
    Sam 2 a0 n0 c0 a1 n0 c1 (vagg 2 none 0 0 none 0 0 (objL ss xs n0).length (some ah) (n0 + 1) (n0 + 1) (some av) (n0 + 1) (n0 + 1)) w := by
  unfold Sam vagg
  obtain ⟨dl, hdl⟩ : ∃ dl, dl = (objL ss xs n0).length := ⟨_, rfl⟩
  rw [← hdl]
  obtain ⟨W, HW⟩ : ∃ W : World, W = w.alloc (.cells #[.int .i64 2, .slice none 0 0, .slice none 0 0, .int .i64 (dl : Int), .slice (some ah) (n0 + 1) (n0 + 1), .slice (some av) (n0 + 1) (n0 + 1)] 31) := ⟨_, rfl⟩
  have hrow : W.rowIs w.heap.size 31 6 (fun j => [Value.int .i64 2, .slice none 0 0, .slice none 0 0, .int .i64 (dl : Int), .slice (some ah) (n0 + 1) (n0 + 1), .slice (some av) (n0 + 1) (n0 + 1)].getD j undef) := by rw [HW]; exact row_of (l := [_, _, _, _, _, _]) (heap_alloc_new w _)
  have hk0 : Kept w W := by rw [HW]; exact kept_alloc _ _
  have s0 := hrow.cell (i := 0) (by omega)
  have s3 := hrow.cell (i := 3) (by omega)
  have s4 := hrow.cell (i := 4) (by omega)
  have s5 := hrow.cell (i := 5) (by omega)
  simp only [List.getD_cons_succ, List.getD_cons_zero] at s0 s3 s4 s5
  have h0' := h0.kept hk0
  have h1' := h1.kept hk0
  have hH' := hH.kept hk0
  have hV' := hV.kept hk0
  have q1 : ((n0 : Int) + 1 != (n0 : Int) + 1) = false := by simp
  have q9 : ((dl : Int) != (dl : Int)) = false := by simp
  have HDL := Lib.hid hdl
  have HW' := HW.symm
  have HO := Lib.hid (objL_has ss xs n0)
  have HK := Lib.hid hk0
  have hdle : dl ≤ n0 := by rw [hdl]; exact objL_len ss xs n0
  clear hdl hH hV h0 h1 HW hrow hk0
  go_enter Tryz.func18, Tryz.ntmps18
  go_wp2_with fail
  go_quiet ((go_at_call 33; refine Calls.quiet_of (v := .int .i64 (dl : Int)) ?_; rw [HDL.out]; exact zzDistinct_any a1 n0 c1 xs ss _ (h1'.drewN _) hn0))
  go_wp2_with fail
  go_loopw [9] (fun i wr => ∃ (k m : Nat), k ≤ n0 ∧ i = .int .i64 k ∧ wr = W.drewN m) (fun i _ => n0 - (intOf i).toNat)
  case atStart => exact ⟨0, _, Nat.zero_le _, rfl, rfl⟩
  case round =>
    obtain ⟨k, m, hk, rfl, rfl⟩ := hrel
    by_cases hlt : k < n0
    · obtain ⟨b3, o3, e3, hc3⟩ := h1'.at hlt
      subst e3
      obtain ⟨s, hs⟩ : ∃ s, s = ss.getD k ByteArray.empty := ⟨_, rfl⟩
      simp only [vs, ← hs] at hc3
      have q4 : (0 : Int) ≤ (k : Int) := by omega
      have q5 : (k : Int) < (n0 : Int) := by omega
      have q6 : (k : Int) < (n0 : Int) + 1 := by omega
      obtain ⟨b4, o4, e4, hc4⟩ := hH'.at (k := k) (by omega)
      obtain ⟨b5, o5, e5, hc5⟩ := hV'.at (k := k) (by omega)
      injection e4 with e4
      injection e5 with e5
      subst e4 e5
      have hkk : kk ss n0 key k = s := by unfold kk; rw [if_pos hlt, hs]
      have hso : (lkp s (objL ss xs n0)).isSome = true := by rw [hs]; exact HO.out k hlt
      obtain ⟨z, hz⟩ : ∃ z, z = iv (lkp s (objL ss xs n0)) := ⟨_, rfl⟩
      simp only [hkk, hso, ← hz] at hc4 hc5
      have q7 : (z != z) = false := by simp
      have h0e := Lib.hid (h0'.drewN m)
      have h1e := Lib.hid (h1'.drewN m)
      have HS := Lib.hid hso
      have HZ := Lib.hid hz
      clear hs h0' h1' hH' hV' hkk hso hz
      go_wp2_with fail
      refine (zzLastValue_any a0 n0 c0 _ c1 xs ss s _ h0e.out h1e.out hn0).mono ?_
      rintro e w1 ⟨rfl, rfl⟩
      rw [HS.out, ← HZ.out]
      go_wp2
      go_roundw
      case rel => exact ⟨k + 1, _, by omega, by go_num, rfl⟩
      case measure => simp [intOf]; omega
    · have : k = n0 := by omega
      subst this
      clear h0' h1' hH' hV'
      go_wp2
      go_ret
      exact ⟨rfl, HK.out.trans (kept_drewN _ _)⟩
/-- zzSameDoc answers true where the view shows the document. -/
theorem zzSameDoc_any (kind : Int) (a0 : Option Addr) (n0 c0 : Nat) (a1 : Option Addr) (n1 c1 : Nat) (xs : List Int) (ss : List ByteArray) (key : ByteArray) (r : Value) (B : Nat) (w : World) (h0 : Rd w a0 n0 (vi xs)) (h1 : Rd w a1 n1 (vs ss)) (hn0 : n0 ≤ 65536)
    (hk0 : 0 ≤ kind) (hk3 : kind ≤ 3) (h2 : kind = 2 → n1 = n0) (hS : (docOf kind n0 xs ss).show.Is ss n1 key B r w) : Sam kind a0 n0 c0 a1 n1 c1 r w := by
  obtain rfl | rfl | rfl | rfl : kind = 0 ∨ kind = 1 ∨ kind = 2 ∨ kind = 3 := by omega
  · rw [show r = _ from hS]
    exact sam_0 _ _ _ _ _ _ _
  · obtain ⟨ai, an, _, rfl, hI, hB⟩ := hS
    refine sam_1 a0 n0 c0 a1 n1 c1 ai an w fun w' k => ?_
    exact zzArrayOK_true a0 n0 c0 xs _ _ 0 _ (fun i => some (xs.getD i 0)) ai an w' (h0.kept k) (Nat.le_refl _) hn0 (by omega) (hI.kept k) (hB.kept k) fun q hq => by rw [if_neg (by omega), if_pos hq]
  · obtain rfl : n1 = n0 := h2 rfl
    obtain ⟨ah, av, _, rfl, hH, hV⟩ := hS
    exact sam_2 a0 n1 c0 xs ss a1 c1 key ah av w hn0 h0 h1 hH hV
  · obtain ⟨ai, _, rfl, h⟩ := hS
    exact sam_3 a0 n0 c0 a1 n1 c1 ai w h
end Go.Proofs.YtdhgaogjdjhokaaGreatDoor
