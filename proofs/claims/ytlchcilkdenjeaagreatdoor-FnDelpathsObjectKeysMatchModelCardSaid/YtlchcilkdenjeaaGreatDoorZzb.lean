/- The contracts of ZZfuncDelpathsWithAllocator and ZZdelpaths at an array of ints. -/
import Derived.Test.YtlchcilkdenjeaaGreatDoorZz
namespace Go.Proofs.YtlchcilkdenjeaaGreatDoor
open Go.RowKit Go.Gq
set_option maxRecDepth 100000
section
variable (b0 n : Nat) (z : Nat → Int) (pa : Option Addr) (m pc : Nat) (Q : Nat → Nat) (idx : Nat → Int) (ma : Option Nat) (w : World) (hv : w.rowIs b0 20 n (fun t => ib (z t))) (hn : n ≤ 1048576) (hm : m ≤ 1048576)
    (hp : PathsIs w pa m idx Q) (hi : ∀ j, j < m → -9223372036854775808 ≤ idx j ∧ idx j ≤ 9223372036854775807) (ha : AllocIs w ma [])
include hv hn hm hp hi ha
theorem ZZdelpaths_any :
    Calls Tryz.prog 22 #[.iface 25 (.slice (some ⟨b0, 0, none⟩) n n), .iface 25 (.slice pa m pc), .map ma] w (DelAns ma w b0 n z (gm n z idx m)) := by
  have HC := Lib.hid (delpaths_any b0 n z pa m pc Q idx ma w hv hn hm hp hi ha)
  clear hv hp hi ha
  go_enter Tryz.func22, Tryz.ntmps22
  go_wp2_with fail
  refine HC.out.mono ?_
  rintro e w1 ⟨b, h, rfl, hh⟩
  have H := Lib.hid hh
  clear hh
  go_wp2
  go_ret
  exact ⟨b, h, rfl, H.out⟩
theorem funcDelpathsWithAllocator_any (ab ac : Nat) (h0 : w.cell? ⟨ab, 0, none⟩ = some (.iface 25 (.slice pa m pc))) (h1 : w.cell? ⟨ab, 1, none⟩ = some (.iface 39 (.map ma))) :
    Calls Tryz.prog 36 #[.iface 25 (.slice (some ⟨b0, 0, none⟩) n n), .slice (some ⟨ab, 0, none⟩) 2 ac] w (DelAns ma w b0 n z (gm n z idx m)) := by
  have hk := kept_drew w
  have HC := Lib.hid (delpaths_any b0 n z pa m pc Q idx ma w.drew (rowIs_kept hv hk) hn hm (hp.kept hk) hi (ha.kept hk))
  have HK := Lib.hid (keep_of_below (fun x => ma = some x) hk)
  clear hv hp hi ha hk
  go_enter Tryz.func36, Tryz.ntmps36
  go_wp2_with fail
  go_still_tail 8, (by kernel_rfl)
  go_wp2_with fail
  refine HC.out.mono ?_
  rintro e w1 ⟨b, h, rfl, hr, hs, hkk⟩
  have H := Lib.hid (And.intro hr (And.intro hs (HK.out.trans hkk)))
  clear hr hs hkk
  go_wp2
  go_ret
  exact ⟨b, h, rfl, H.out⟩
theorem ZZfuncDelpathsWithAllocator_any (ab ac : Nat) (h0 : w.cell? ⟨ab, 0, none⟩ = some (.iface 25 (.slice pa m pc))) (h1 : w.cell? ⟨ab, 1, none⟩ = some (.iface 39 (.map ma))) :
    Calls Tryz.prog 26 #[.iface 25 (.slice (some ⟨b0, 0, none⟩) n n), .slice (some ⟨ab, 0, none⟩) 2 ac] w (DelAns ma w b0 n z (gm n z idx m)) := by
  have HC := Lib.hid (funcDelpathsWithAllocator_any b0 n z pa m pc Q idx ma w hv hn hm hp hi ha ab ac h0 h1)
  clear hv hp hi ha h0 h1
  go_enter Tryz.func26, Tryz.ntmps26
  go_wp2_with fail
  refine HC.out.mono ?_
  rintro e w1 ⟨b, h, rfl, hh⟩
  have H := Lib.hid hh
  clear hh
  go_wp2
  go_ret
  exact ⟨b, h, rfl, H.out⟩
end
end Go.Proofs.YtlchcilkdenjeaaGreatDoor
