/- zzIndexAny and zzContainsAny at texts of ASCII. -/
import Derived.Test.YticjhbklcpoonaaGreatDoorSlices
import Derived.Test.YticjhbklcpoonaaGreatDoorFacts
import Derived.Lib.OthersKept
import Derived.Laws.RangeAny
import Derived.Lib.Hide
namespace Go.Proofs.YticjhbklcpoonaaGreatDoor
open Go.RowKit Go.Gq
set_option maxRecDepth 100000
def Meets (s cs : ByteArray) (n : Nat) : Prop := ∃ i, i < n ∧ ∃ (h : i < s.size), ∃ j, ∃ (h2 : j < cs.size), (s[i]'h).toNat = (cs[j]'h2).toNat
theorem zzIndexAny_ok (s cs : ByteArray) (hs : s.size ≤ 4611686018427387904) (hcs : cs.size ≤ 4611686018427387904) (ha : ∀ i (h : i < s.size), (s[i]'h).toNat < 128) (hb : ∀ i (h : i < cs.size), (cs[i]'h).toNat < 128) (w : World) :
    Calls Tryz.prog 104 #[.string s, .string cs] w fun e w' => ∃ r : Int, e = .returned (.int .i64 r) ∧ (0 ≤ r ↔ Meets s cs s.size) ∧ Kept w w' := by
  go_enter Tryz.func104, Tryz.ntmps104
  go_wp2
  go_loopw [5] (fun _ wr => ∃ pos, pos ≤ s.size ∧ wr.heap[w.heap.size]? = some (.stringIter s pos) ∧ ¬ Meets s cs pos ∧ Below w.heap.size w wr) (fun _ wr => s.size - wr.iterPos w.heap.size)
  case atStart =>
    refine ⟨0, by omega, World.iter_heap w s 0, ?_, (Below.refl _ w).alloc (Nat.le_refl _) _⟩
    rintro ⟨i, hi, _⟩
    omega
  case round =>
    obtain ⟨pos, hp0, hit, hno, hbw⟩ := hrel
    have hsz : w.heap.size < wr.heap.size := (Array.getElem?_eq_some_iff.1 hit).1
    by_cases hp : pos < s.size
    · have hnx : ∀ ty, (Instr.next (.pointer (some ⟨w.heap.size, 0, none⟩)) true ty).run Tryz.prog wr = _ := fun ty => Lib.run_next_ascii_at wr w.heap.size s pos ty hit hp (ha pos hp)
      have hit2 := Lib.iterAt_heap wr w.heap.size s pos (pos + 1) hit
      have hbw2 := Lib.below_iterAt hbw (k := w.heap.size) (by omega) s (pos + 1)
      have hsz2 : w.heap.size < (wr.iterAt w.heap.size s (pos + 1)).heap.size := by rw [Lib.iterAt_size]; omega
      generalize hW1 : wr.iterAt w.heap.size s (pos + 1) = W1 at *
      clear hW1
      go_wp2
      go_loopw [8] (fun _ wi => ∃ pj, pj ≤ cs.size ∧ wi.heap[W1.heap.size]? = some (.stringIter cs pj) ∧ wi.heap[w.heap.size]? = some (.stringIter s (pos + 1)) ∧ (∀ j (h : j < cs.size), j < pj → (s[pos]'hp).toNat ≠ (cs[j]'h).toNat) ∧ Below w.heap.size w wi) (fun _ wi => cs.size - wi.iterPos W1.heap.size)
      case atStart =>
        refine ⟨0, by omega, World.iter_heap W1 cs 0, ?_, fun j h hj => by omega, hbw2.alloc (by omega) _⟩
        have : (W1.iter cs 0).heap[w.heap.size]? = W1.heap[w.heap.size]? := by
          show (W1.heap.push _)[_]? = _
          rw [Array.getElem?_push, if_neg (by omega)]
        rw [this, hit2]
      case round =>
        obtain ⟨pj, hj0, hjt, hjt2, hjn, hjb⟩ := hrel
        have hjs : W1.heap.size < wr.heap.size := (Array.getElem?_eq_some_iff.1 hjt).1
        by_cases hq : pj < cs.size
        · have hnx2 : ∀ ty, (Instr.next (.pointer (some ⟨W1.heap.size, 0, none⟩)) true ty).run Tryz.prog wr = _ := fun ty => Lib.run_next_ascii_at wr W1.heap.size cs pj ty hjt hq (hb pj hq)
          have hkt2 := Lib.iterAt_heap wr W1.heap.size cs pj (pj + 1) hjt
          have hkt3 : (wr.iterAt W1.heap.size cs (pj + 1)).heap[w.heap.size]? = some (.stringIter s (pos + 1)) := by rw [Lib.iterAt_other _ _ _ _ _ (by omega), hjt2]
          have hkb2 := Lib.below_iterAt hjb (k := W1.heap.size) (by omega) cs (pj + 1)
          generalize hW2 : wr.iterAt W1.heap.size cs (pj + 1) = W2 at *
          clear hW2
          by_cases heq : (s[pos]'hp).toNat = (cs[pj]'hq).toNat
          · have q1 : (((s[pos]'hp).toNat : Int) == ((cs[pj]'hq).toNat : Int)) = true := by rw [heq]; simp
            go_wp2
            go_ret
            exact ⟨pos, rfl, ⟨fun _ => ⟨pos, hp, hp, pj, hq, heq⟩, fun _ => by omega⟩, hkb2⟩
          · have q1 : (((s[pos]'hp).toNat : Int) == ((cs[pj]'hq).toNat : Int)) = false := by simp; omega
            go_wp2
            go_roundw
            case rel =>
              refine ⟨pj + 1, by omega, hkt2, hkt3, ?_, hkb2⟩
              intro j h hj
              by_cases hjp : j = pj
              · subst hjp; exact heq
              · exact hjn j h (by omega)
            case measure =>
              simp only [World.iterPos, hkt2, hjt]
              omega
        · have hnx2 : ∀ ty, (Instr.next (.pointer (some ⟨W1.heap.size, 0, none⟩)) true ty).run Tryz.prog wr = _ := fun ty => Lib.run_next_end_at wr W1.heap.size cs pj ty hjt hq
          go_wp2
          go_roundw
          case rel =>
            refine ⟨pos + 1, by omega, hjt2, ?_, hjb⟩
            rintro ⟨i, hi, h, j, h', he⟩
            by_cases hip : i = pos
            · subst hip; exact hjn j h' (by omega) he
            · exact hno ⟨i, by omega, h, j, h', he⟩
          case measure =>
            simp only [World.iterPos, hjt2, hit]
            omega
    · have hnx : ∀ ty, (Instr.next (.pointer (some ⟨w.heap.size, 0, none⟩)) true ty).run Tryz.prog wr = _ := fun ty => Lib.run_next_end_at wr w.heap.size s pos ty hit hp
      go_wp2
      go_ret
      refine ⟨-1, rfl, ?_, hbw⟩
      have he : pos = s.size := by omega
      subst he
      constructor
      · intro h; omega
      · intro h; exact absurd h hno
theorem zzContainsAny_ok (s cs : ByteArray) (b : Bool) (hs : s.size ≤ 4611686018427387904) (hcs : cs.size ≤ 4611686018427387904) (ha : ∀ i (h : i < s.size), (s[i]'h).toNat < 128) (hb : ∀ i (h : i < cs.size), (cs[i]'h).toNat < 128) (w : World) (hm : b = true ↔ Meets s cs s.size) :
    Calls Tryz.prog 93 #[.string s, .string cs] w fun e w' => e = .returned (.bool b) ∧ Kept w w' := by
  go_enter Tryz.func93, Tryz.ntmps93
  go_wp2_with fail
  refine (zzIndexAny_ok s cs hs hcs ha hb w).mono ?_
  rintro e w1 ⟨r, rfl, hr, hk⟩
  have H := Lib.hid (And.intro hr hk)
  clear hr hk ha hb
  have hb1 : b = decide (0 ≤ r) := by
    have h1 := H.out.1
    cases b
    · symm; simp only [decide_eq_false_iff_not]; intro h; exact absurd (hm.2 (h1.1 h)) (by simp)
    · symm; simp only [decide_eq_true_eq]; exact h1.2 (hm.1 rfl)
  clear hm
  go_wp2
  go_ret
  subst hb1
  exact ⟨rfl, H.out.2⟩
end Go.Proofs.YticjhbklcpoonaaGreatDoor
