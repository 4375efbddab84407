/- The contracts of delpaths' entries at an array of ints: ZZfuncDelpaths, ZZdelpaths, ZZfuncDelpathsWithAllocator. -/
import Derived.Test.YtlchcilkdenjeaaGreatDoorHelpc
import Derived.StillTailTactics
namespace Go.Proofs.YtlchcilkdenjeaaGreatDoor
open Go.RowKit Go.Gq
set_option maxRecDepth 100000
theorem delpaths_any (b0 n : Nat) (z : Nat → Int) (pa : Option Addr) (m pc : Nat) (Q : Nat → Nat) (idx : Nat → Int) (ma : Option Nat) (w : World) (hv : w.rowIs b0 20 n (fun t => ib (z t))) (hn : n ≤ 1048576) (hm : m ≤ 1048576)
    (hp : PathsIs w pa m idx Q) (hi : ∀ j, j < m → -9223372036854775808 ≤ idx j ∧ idx j ≤ 9223372036854775807) (ha : AllocIs w ma []) :
    Calls Tryz.prog 35 #[.iface 25 (.slice (some ⟨b0, 0, none⟩) n n), .iface 25 (.slice pa m pc), .map ma] w (DelAns ma w b0 n z (gm n z idx m)) := by
  by_cases hm0 : 0 < m
  · exact delpaths_arr b0 n z pa m pc Q idx ma w hv hn hm hm0 hp.1 hp.2 hi ha
  · obtain rfl : m = 0 := by omega
    obtain ⟨h1, h2⟩ := kl_all (g := gm n z idx 0) (z := z) n (fun _ _ => rfl)
    have HF := Lib.hid (And.intro h1 (And.intro h2 hv))
    clear h1 h2 hv hp hi ha
    go_enter Tryz.func35, Tryz.ntmps35
    go_wp2
    go_ret
    obtain ⟨h1, h2, hv⟩ := HF.out
    refine ⟨b0, _, by rw [h1]; rfl, hv, fun s hs => by rw [h2 s (by omega)], Keep.refl _ _⟩
/-- What a whole call answers. -/
def DelOut (w : World) (n : Nat) (G : Nat → Option Int) (e : Ending) (w' : World) : Prop :=
  ∃ b, e = .returned (.iface 25 (.slice (some ⟨b, 0, none⟩) (kl G n).length n)) ∧ Rd w' (some ⟨b, 0, none⟩) (kl G n).length (fun s => ib ((kl G n).getD s 0)) ∧ Kept w w'
theorem DelAns.out {ma : Option Nat} {w0 w : World} {b0 n : Nat} {z : Nat → Int} {G : Nat → Option Int} {e : Ending} {w' : World} (hk : Kept w0 w) (hm : ∀ x, ma = some x → w0.heap.size ≤ x) (h : DelAns ma w b0 n z G e w') : DelOut w0 n G e w' := by
  obtain ⟨b, h, rfl, hr, hs, hkk⟩ := h
  have hle := kl_len G n
  exact ⟨b, rfl, .inr ⟨b, 0, rfl, fun s hs' => by rw [Nat.zero_add, hr.cell (i := s) (by omega), hs s hs']⟩, Below.trans hk (hkk.below hk.size hm)⟩
theorem empty_map (w : World) : Kept w (w.alloc (.map #[] 0)) ∧ AllocIs (w.alloc (.map #[] 0)) (some w.heap.size) [] ∧ ∀ x, some w.heap.size = some x → w.heap.size ≤ x :=
  ⟨kept_alloc _ _, .inr ⟨_, rfl, mapIs_new intKey w⟩, fun x e => by injection e with e; omega⟩
theorem make_map (W : World) : (Instr.makeMap 39 none).run Tryz.prog W = .ok (.map (some W.heap.size)) (W.alloc (.map #[] 0)) := by
  simp [Instr.makeMap]
section
variable (b0 n : Nat) (z : Nat → Int) (pa : Option Addr) (m pc : Nat) (Q : Nat → Nat) (idx : Nat → Int) (w : World) (hv : w.rowIs b0 20 n (fun t => ib (z t))) (hn : n ≤ 1048576) (hm : m ≤ 1048576)
    (hp : PathsIs w pa m idx Q) (hi : ∀ j, j < m → -9223372036854775808 ≤ idx j ∧ idx j ≤ 9223372036854775807)
include hv hn hm hp hi
theorem funcDelpaths_any :
    Calls Tryz.prog 33 #[.iface 25 (.slice (some ⟨b0, 0, none⟩) n n), .iface 25 (.slice pa m pc)] w (DelOut w n (gm n z idx m)) := by
  obtain ⟨hk, ha, hx⟩ := empty_map w
  have HC := Lib.hid ((delpaths_any b0 n z pa m pc Q idx (some w.heap.size) _ (rowIs_kept hv hk) hn hm (hp.kept hk) hi ha).mono fun e w' h => h.out hk hx)
  have hmm := make_map w
  clear hv hp hi hk ha hx
  go_enter Tryz.func33, Tryz.ntmps33
  go_wp2_with fail
  refine HC.out.mono ?_
  rintro e w1 ⟨b, rfl, h⟩
  have H := Lib.hid h
  clear h
  go_wp2
  go_ret
  exact ⟨b, rfl, H.out⟩
theorem ZZfuncDelpaths_any :
    Calls Tryz.prog 13 #[.iface 25 (.slice (some ⟨b0, 0, none⟩) n n), .iface 25 (.slice pa m pc)] w (DelOut w n (gm n z idx m)) := by
  have HC := Lib.hid (funcDelpaths_any b0 n z pa m pc Q idx w hv hn hm hp hi)
  clear hv hp hi
  go_enter Tryz.func13, Tryz.ntmps13
  go_wp2_with fail
  refine HC.out.mono ?_
  rintro e w1 ⟨b, rfl, h⟩
  have H := Lib.hid h
  clear h
  go_wp2
  go_ret
  exact ⟨b, rfl, H.out⟩
end
end Go.Proofs.YtlchcilkdenjeaaGreatDoor
