/- strings.HasPrefix and strings.TrimPrefix at "$". -/
import Derived.Test.YticjhbklcpoonaaGreatDoorSlices
import Derived.Test.YticjhbklcpoonaaGreatDoorFacts
import Derived.Test.YticjhbklcpoonaaGreatDoorTix
namespace Go.Proofs.YticjhbklcpoonaaGreatDoor
open Go.RowKit Go.Gq
set_option maxRecDepth 100000
theorem cell_up2 {w : World} {a : Addr} {v : Value} (h : w.cell? a = some v) {o : Obj} : (w.alloc o).cell? a = some v := kept_cell (kept_alloc w o) h
abbrev dol : ByteArray := ⟨#[36]⟩
def hpB (s : ByteArray) : Bool := decide (1 ≤ s.size) && ((s.extract 0 1).toList == [36])
def tpS (s : ByteArray) : ByteArray := if hpB s then s.extract 1 s.size else s
theorem hasPrefix_any (s : ByteArray) (w : World) (_hs : s.size ≤ 9223372036854775807) :
    Calls Tryz.prog 77 #[.string s, .string dol] w fun e w' => e = .returned (.bool (hpB s)) ∧ w = w' := by
  by_cases h : 1 ≤ s.size
  · have hb : hpB s = ((s.extract 0 1).toList == [36]) := by unfold hpB; rw [decide_eq_true h]; rfl
    have HB := Lib.hid hb
    clear hb
    go_enter Tryz.func77, Tryz.ntmps77
    go_wp2
    go_ret
    exact ⟨ret_bool HB.out.symm, rfl⟩
  · have hb : hpB s = false := by unfold hpB; rw [decide_eq_false h]; rfl
    have HB := Lib.hid hb
    clear hb
    go_enter Tryz.func77, Tryz.ntmps77
    go_wp2
    go_ret
    exact ⟨ret_bool HB.out.symm, rfl⟩
theorem strHasPrefix_any (s : ByteArray) (w : World) (hs : s.size ≤ 9223372036854775807) :
    Calls Tryz.prog 63 #[.string s, .string dol] w fun e w' => e = .returned (.bool (hpB s)) ∧ w = w' := by
  have HC := Lib.hid (hasPrefix_any s w hs)
  go_enter Tryz.func63, Tryz.ntmps63
  go_wp2_with fail
  refine HC.out.mono ?_
  rintro e w' ⟨rfl, rfl⟩
  go_wp2
  go_ret
  exact ⟨rfl, rfl⟩
theorem trimPrefix_any (s : ByteArray) (w : World) (hs : s.size ≤ 9223372036854775807) :
    Calls Tryz.prog 76 #[.string s, .string dol] w fun e w' => e = .returned (.string (tpS s)) ∧ w = w' := by
  have HC := Lib.hid (hasPrefix_any s w hs)
  obtain ⟨b, hb⟩ : ∃ b, b = hpB s := ⟨_, rfl⟩
  have HT : Hid (tpS s = if b then s.extract 1 s.size else s) := by rw [hb]; exact Lib.hid rfl
  have h1 : b = true → 1 ≤ s.size := fun e => by rw [hb] at e; unfold hpB at e; simp at e; omega
  rw [← hb] at HC
  clear hb
  cases b with
  | true =>
    have h2 := h1 rfl
    clear h1
    go_enter Tryz.func76, Tryz.ntmps76
    go_wp2_with fail
    refine HC.out.mono ?_
    rintro e w' ⟨rfl, rfl⟩
    go_wp2
    go_ret
    exact ⟨by rw [HT.out]; simp, rfl⟩
  | false =>
    clear h1
    go_enter Tryz.func76, Tryz.ntmps76
    go_wp2_with fail
    refine HC.out.mono ?_
    rintro e w' ⟨rfl, rfl⟩
    go_wp2
    go_ret
    exact ⟨by rw [HT.out]; simp, rfl⟩
theorem strTrimPrefix_any (s : ByteArray) (w : World) (hs : s.size ≤ 9223372036854775807) :
    Calls Tryz.prog 62 #[.string s, .string dol] w fun e w' => e = .returned (.string (tpS s)) ∧ w = w' := by
  have HC := Lib.hid (trimPrefix_any s w hs)
  go_enter Tryz.func62, Tryz.ntmps62
  go_wp2_with fail
  refine HC.out.mono ?_
  rintro e w' ⟨rfl, rfl⟩
  go_wp2
  go_ret
  exact ⟨rfl, rfl⟩
/-! ### No metadata, or none in it -/
theorem toValue_nil (w : World) : Calls Tryz.prog 61 #[.pointer none] w fun e w' => e = .returned (.map none) ∧ w = w' := by
  go_enter Tryz.func61, Tryz.ntmps61
  go_wp2
  go_ret
  exact ⟨rfl, rfl⟩
theorem make_map0 (w : World) : (Instr.makeMap 113 (some (.int .i64 0))).run Tryz.prog w = .ok (.map (some w.heap.size)) (w.alloc (.map #[] 0)) := rfl
theorem toValue_empty (m : Nat) (w : World) (h : w.cell? ⟨m, 0, none⟩ = some (.slice none 0 0)) : Calls Tryz.prog 61 #[.pointer (some ⟨m, 0, none⟩)] w fun e w' => e = .returned (.map (some w.heap.size)) ∧ w' = w.alloc (.map #[] 0) := by
  have hm2 := cell_up2 h (o := .map #[] 0)
  have hmm := make_map0
  go_enter Tryz.func61, Tryz.ntmps61
  go_wp2
  go_loop [20] (fun t => t = .int .i64 0) (fun _ => 0)
  case atStart => rfl
  case round =>
    subst hrel
    go_wp2
    go_ret
    exact ⟨rfl, rfl⟩
end Go.Proofs.YticjhbklcpoonaaGreatDoor
