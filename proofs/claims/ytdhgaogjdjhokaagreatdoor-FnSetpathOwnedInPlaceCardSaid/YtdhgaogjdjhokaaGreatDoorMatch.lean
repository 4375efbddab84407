/- The contract of zzMatches: true where the view shows the case table's answer. -/
import Derived.Test.YtdhgaogjdjhokaaGreatDoorChkc
namespace Go.Proofs.YtdhgaogjdjhokaaGreatDoor
open Go.RowKit Go.Gq
set_option maxRecDepth 100000
/-- zzMatches, called. -/
abbrev Mch (kind : Int) (a0 : Option Addr) (n0 c0 : Nat) (a1 : Option Addr) (n1 c1 : Nat) (pkind idx : Int) (key : ByteArray) (n : Int) (r : Value) (w : World) : Prop :=
  Calls Tryz.prog 15 #[.int .i64 kind, .slice a0 n0 c0, .slice a1 n1 c1, .int .i64 pkind, .int .i64 idx, .string key, .int .i64 n, r] w (TrueKept w)
set_option maxHeartbeats 2000000 in
theorem mch_14 (kind : Int) (a0 : Option Addr) (n0 c0 : Nat) (a1 : Option Addr) (n1 c1 : Nat) (idx : Int) (key : ByteArray) (n : Int) (w : World) : Mch kind a0 n0 c0 a1 n1 c1 3 idx key n (vagg 14 none 0 0 none 0 0 0 none 0 0 none 0 0) w := by
  unfold vagg
  have HK := Lib.hid (kept_alloc w (.cells #[.int .i64 14, .slice none 0 0, .slice none 0 0, .int .i64 0, .slice none 0 0, .slice none 0 0] 31))
  go_enter Tryz.func15, Tryz.ntmps15
  go_wp2
  go_ret
  exact ⟨rfl, HK.out⟩
set_option maxHeartbeats 2000000 in
theorem mch_3 (kind : Int) (a0 : Option Addr) (n0 c0 : Nat) (a1 : Option Addr) (n1 c1 : Nat) (idx : Int) (key : ByteArray) (n : Int) (ai : Addr) (w : World) (h : Rd w (some ai) 1 (fun _ => .int .i64 n)) : Mch kind a0 n0 c0 a1 n1 c1 0 idx key n (vagg 3 (some ai) 1 1 none 0 0 0 none 0 0 none 0 0) w := by
  unfold vagg
  have hk := kept_alloc w (.cells #[.int .i64 3, .slice (some ai) 1 1, .slice none 0 0, .int .i64 0, .slice none 0 0, .slice none 0 0] 31)
  have q1 : (n == n) = true := by simp
  obtain ⟨b, o, e, hc⟩ := (h.kept hk).at (k := 0) (by omega)
  injection e with e
  subst e
  simp only [Nat.add_zero] at hc
  have HK := Lib.hid hk
  clear hk h
  go_enter Tryz.func15, Tryz.ntmps15
  go_wp2
  go_ret
  exact ⟨rfl, HK.out⟩
set_option maxHeartbeats 2000000 in
theorem mch_12 (kind : Int) (hk : kind = 1 ∨ kind = 3) (a0 : Option Addr) (n0 c0 : Nat) (a1 : Option Addr) (n1 c1 : Nat) (idx : Int) (key : ByteArray) (n : Int) (w : World) : Mch kind a0 n0 c0 a1 n1 c1 2 idx key n (vagg 12 none 0 0 none 0 0 0 none 0 0 none 0 0) w := by
  unfold vagg
  have HK := Lib.hid (kept_alloc w (.cells #[.int .i64 12, .slice none 0 0, .slice none 0 0, .int .i64 0, .slice none 0 0, .slice none 0 0] 31))
  rcases hk with rfl | rfl
  all_goals
    go_enter Tryz.func15, Tryz.ntmps15
    go_wp2
    go_ret
    exact ⟨rfl, HK.out⟩
set_option maxHeartbeats 2000000 in
theorem mch_13 (kind : Int) (hk : kind = 2 ∨ kind = 3) (a0 : Option Addr) (n0 c0 : Nat) (a1 : Option Addr) (n1 c1 : Nat) (idx : Int) (key : ByteArray) (n : Int) (w : World) : Mch kind a0 n0 c0 a1 n1 c1 1 idx key n (vagg 13 none 0 0 none 0 0 0 none 0 0 none 0 0) w := by
  unfold vagg
  have HK := Lib.hid (kept_alloc w (.cells #[.int .i64 13, .slice none 0 0, .slice none 0 0, .int .i64 0, .slice none 0 0, .slice none 0 0] 31))
  rcases hk with rfl | rfl
  all_goals
    go_enter Tryz.func15, Tryz.ntmps15
    go_wp2
    go_ret
    exact ⟨rfl, HK.out⟩
set_option maxHeartbeats 4000000 in
theorem mch_obj (kind : Int) (hk : kind = 0 ∨ kind = 2) (a0 : Option Addr) (n0 c0 : Nat) (a1 : Option Addr) (n1 c1 : Nat) (idx : Int) (key : ByteArray) (n : Int) (m : Nat) (ah av : Addr) (w : World)
    (ho : ∀ w', Kept w w' → Calls Tryz.prog 31 #[.int .i64 kind, .slice a0 n0 c0, .slice a1 n1 c1, .string key, .int .i64 n, vagg 2 none 0 0 none 0 0 m (some ah) (n1 + 1) (n1 + 1) (some av) (n1 + 1) (n1 + 1)] w' (TrueKept w')) :
    Mch kind a0 n0 c0 a1 n1 c1 2 idx key n (vagg 2 none 0 0 none 0 0 m (some ah) (n1 + 1) (n1 + 1) (some av) (n1 + 1) (n1 + 1)) w := by
  unfold vagg at ho ⊢
  have hk := kept_alloc w (.cells #[.int .i64 2, .slice none 0 0, .slice none 0 0, .int .i64 (m : Int), .slice (some ah) (n1 + 1) (n1 + 1), .slice (some av) (n1 + 1) (n1 + 1)] 31)
  rename_i hkk
  have HK := Lib.hid hk
  have HO := Lib.hid ho
  clear ho hk
  rcases hkk with rfl | rfl
  all_goals
    go_enter Tryz.func15, Tryz.ntmps15
    go_wp2_with fail
    refine (HO.out _ HK.out).mono ?_
    rintro e w1 ⟨rfl, hk1⟩
    have HK1 := Lib.hid (HK.out.trans hk1)
    clear hk1
    go_wp2
    go_ret
    exact ⟨rfl, HK1.out⟩
def lenOf (kind : Int) (n0 : Nat) : Nat := if kind = 1 then n0 else 0
set_option maxHeartbeats 2000000 in
theorem mch_10 (kind : Int) (hk : kind = 0 ∨ kind = 1) (a0 : Option Addr) (n0 c0 : Nat) (a1 : Option Addr) (n1 c1 : Nat) (idx : Int) (key : ByteArray) (n : Int) (w : World) (hi : -9223372036854775808 ≤ idx) (hn0 : n0 ≤ 65536) (h1 : idx < 0) (h2 : idx + (lenOf kind n0 : Nat) < 0) : Mch kind a0 n0 c0 a1 n1 c1 1 idx key n (vagg 10 none 0 0 none 0 0 0 none 0 0 none 0 0) w := by
  unfold vagg
  have HK := Lib.hid (kept_alloc w (.cells #[.int .i64 10, .slice none 0 0, .slice none 0 0, .int .i64 0, .slice none 0 0, .slice none 0 0] 31))
  rcases hk with rfl | rfl
  · have h3 : idx + 0 < 0 := h2
    go_enter Tryz.func15, Tryz.ntmps15
    go_wp2
    go_ret
    exact ⟨rfl, HK.out⟩
  · have h3 : idx + (n0 : Int) < 0 := h2
    go_enter Tryz.func15, Tryz.ntmps15
    go_wp2
    go_ret
    exact ⟨rfl, HK.out⟩
set_option maxHeartbeats 2000000 in
theorem mch_11 (kind : Int) (hk : kind = 0 ∨ kind = 1) (a0 : Option Addr) (n0 c0 : Nat) (a1 : Option Addr) (n1 c1 : Nat) (idx : Int) (key : ByteArray) (n : Int) (w : World) (hn0 : n0 ≤ 65536) (h1 : 536870912 ≤ idx) : Mch kind a0 n0 c0 a1 n1 c1 1 idx key n (vagg 11 none 0 0 none 0 0 0 none 0 0 none 0 0) w := by
  unfold vagg
  have HK := Lib.hid (kept_alloc w (.cells #[.int .i64 11, .slice none 0 0, .slice none 0 0, .int .i64 0, .slice none 0 0, .slice none 0 0] 31))
  have q1 : ¬ idx < 0 := by omega
  have q2 : ¬ idx < (n0 : Int) := by omega
  have q3 : idx ≥ 536870912 := h1
  rcases hk with rfl | rfl
  all_goals
    go_enter Tryz.func15, Tryz.ntmps15
    go_wp2
    go_ret
    exact ⟨rfl, HK.out⟩
/-- zzArrayOK, called. -/
abbrev AOK (a0 : Option Addr) (n0 c0 : Nat) (L : Nat) (pos n : Int) (len : Nat) (r : Value) (w : World) : Prop :=
  Calls Tryz.prog 26 #[.slice a0 n0 c0, .int .i64 L, .int .i64 pos, .int .i64 n, .int .i64 len, r] w (TrueKept w)
set_option maxHeartbeats 4000000 in
theorem mch_neg (kind : Int) (hk : kind = 0 ∨ kind = 1) (a0 : Option Addr) (n0 c0 : Nat) (a1 : Option Addr) (n1 c1 : Nat) (idx : Int) (key : ByteArray) (n : Int) (len : Nat) (ai an : Addr) (w : World) (hi : -9223372036854775808 ≤ idx) (hn0 : n0 ≤ 65536) (h1 : idx < 0) (h2 : ¬ idx + (lenOf kind n0 : Nat) < 0)
    (ho : ∀ w', Kept w w' → AOK a0 n0 c0 (lenOf kind n0) (idx + (lenOf kind n0 : Nat)) n (lenOf kind n0) (vagg 1 (some ai) len len (some an) len len 0 none 0 0 none 0 0) w') :
    Mch kind a0 n0 c0 a1 n1 c1 1 idx key n (vagg 1 (some ai) len len (some an) len len 0 none 0 0 none 0 0) w := by
  unfold AOK vagg at ho
  unfold Mch vagg
  have HK := Lib.hid (kept_alloc w (.cells #[.int .i64 1, .slice (some ai) len len, .slice (some an) len len, .int .i64 0, .slice none 0 0, .slice none 0 0] 31))
  rcases hk with rfl | rfl
  · exact absurd (show idx + ((lenOf 0 n0 : Nat) : Int) < 0 from by show idx + 0 < 0; omega) h2
  · have h3 : ¬ idx + (n0 : Int) < 0 := h2
    have HO := Lib.hid ho
    clear ho h2
    go_enter Tryz.func15, Tryz.ntmps15
    go_wp2_with fail
    refine (HO.out _ HK.out).mono ?_
    rintro e w1 ⟨rfl, hk1⟩
    have HK1 := Lib.hid (HK.out.trans hk1)
    clear hk1
    go_wp2
    go_ret
    exact ⟨rfl, HK1.out⟩
set_option maxHeartbeats 4000000 in
theorem mch_in (kind : Int) (hk : kind = 0 ∨ kind = 1) (a0 : Option Addr) (n0 c0 : Nat) (a1 : Option Addr) (n1 c1 : Nat) (idx : Int) (key : ByteArray) (n : Int) (len : Nat) (ai an : Addr) (w : World) (_hn0 : n0 ≤ 65536) (h1 : ¬ idx < 0) (h2 : idx < (lenOf kind n0 : Nat))
    (ho : ∀ w', Kept w w' → AOK a0 n0 c0 (lenOf kind n0) idx n (lenOf kind n0) (vagg 1 (some ai) len len (some an) len len 0 none 0 0 none 0 0) w') :
    Mch kind a0 n0 c0 a1 n1 c1 1 idx key n (vagg 1 (some ai) len len (some an) len len 0 none 0 0 none 0 0) w := by
  unfold AOK vagg at ho
  unfold Mch vagg
  have HK := Lib.hid (kept_alloc w (.cells #[.int .i64 1, .slice (some ai) len len, .slice (some an) len len, .int .i64 0, .slice none 0 0, .slice none 0 0] 31))
  rcases hk with rfl | rfl
  · exact absurd (show idx < 0 from h2) h1
  · have h3 : idx < (n0 : Int) := h2
    have HO := Lib.hid ho
    clear ho h2
    go_enter Tryz.func15, Tryz.ntmps15
    go_wp2_with fail
    refine (HO.out _ HK.out).mono ?_
    rintro e w1 ⟨rfl, hk1⟩
    have HK1 := Lib.hid (HK.out.trans hk1)
    clear hk1
    go_wp2
    go_ret
    exact ⟨rfl, HK1.out⟩
set_option maxHeartbeats 4000000 in
theorem mch_pad (kind : Int) (hk : kind = 0 ∨ kind = 1) (a0 : Option Addr) (n0 c0 : Nat) (a1 : Option Addr) (n1 c1 : Nat) (idx : Nat) (key : ByteArray) (n : Int) (ai an : Addr) (w : World) (_hn0 : n0 ≤ 65536) (h1 : (idx : Int) < 536870912) (h2 : ¬ (idx : Int) < (lenOf kind n0 : Nat))
    (ho : ∀ w', Kept w w' → AOK a0 n0 c0 (lenOf kind n0) idx n (idx + 1) (vagg 1 (some ai) (idx + 1) (idx + 1) (some an) (idx + 1) (idx + 1) 0 none 0 0 none 0 0) w') :
    Mch kind a0 n0 c0 a1 n1 c1 1 idx key n (vagg 1 (some ai) (idx + 1) (idx + 1) (some an) (idx + 1) (idx + 1) 0 none 0 0 none 0 0) w := by
  unfold AOK vagg at ho
  unfold Mch vagg
  have HK := Lib.hid (kept_alloc w (.cells #[.int .i64 1, .slice (some ai) (idx + 1) (idx + 1), .slice (some an) (idx + 1) (idx + 1), .int .i64 0, .slice none 0 0, .slice none 0 0] 31))
  have q1 : ¬ (idx : Int) < 0 := by omega
  have q3 : ¬ (idx : Int) ≥ 536870912 := by omega
  rcases hk with rfl | rfl
  · have HO := Lib.hid ho
    clear ho h2
    go_enter Tryz.func15, Tryz.ntmps15
    go_wp2_with fail
    refine (HO.out _ HK.out).mono ?_
    rintro e w1 ⟨rfl, hk1⟩
    have HK1 := Lib.hid (HK.out.trans hk1)
    clear hk1
    go_wp2
    go_ret
    exact ⟨rfl, HK1.out⟩
  · have h3 : ¬ (idx : Int) < (n0 : Int) := h2
    have HO := Lib.hid ho
    clear ho h2
    go_enter Tryz.func15, Tryz.ntmps15
    go_wp2_with fail
    refine (HO.out _ HK.out).mono ?_
    rintro e w1 ⟨rfl, hk1⟩
    have HK1 := Lib.hid (HK.out.trans hk1)
    clear hk1
    go_wp2
    go_ret
    exact ⟨rfl, HK1.out⟩
end Go.Proofs.YtdhgaogjdjhokaaGreatDoor
