/- What toIndexKey of a query answers. -/
import Derived.Test.YticjhbklcpoonaaGreatDoorKyc
import Derived.Test.YticjhbklcpoonaaGreatDoorNtx
namespace Go.Proofs.YticjhbklcpoonaaGreatDoor
open Go.RowKit Go.Gq
set_option maxRecDepth 100000
inductive KOut where
  | none
  | str (t : ByteArray)
  | int (z : Int)
  | other
def KeyOut : KOut → Value → Prop
  | .none, v => v = .nilIface
  | .str t, v => v = .iface 9 (.string t)
  | .int z, v => v = nb z
  | .other, v => KeyN v
def KeyAns (K : KOut) (w : World) (e : Ending) (x : World) : Prop := ∃ v, e = .returned v ∧ KeyOut K v ∧ Kept w x
theorem qkey_term (q b : Nat) (K : KOut) (w : World) (c3 : w.cell? ⟨q, 3, none⟩ = some (.pointer (some ⟨b, 0, none⟩)))
    (h : Calls Tryz.prog 60 #[.pointer (some ⟨b, 0, none⟩)] w (KeyAns K w)) :
    Calls Tryz.prog 45 #[.pointer (some ⟨q, 0, none⟩)] w (KeyAns K w) := by
  have H := Lib.hid h
  clear h
  go_enter Tryz.func45, Tryz.ntmps45
  go_wp2_with fail
  refine H.out.mono ?_
  rintro e w1 ⟨v, rfl, hv, hk⟩
  have K1 := Lib.hid (And.intro hv hk)
  clear hv hk
  go_wp2
  go_ret
  exact ⟨v, rfl, K1.out.1, K1.out.2⟩
theorem qkey_nil (q : Nat) (w : World) (c3 : w.cell? ⟨q, 3, none⟩ = some (.pointer none)) :
    Calls Tryz.prog 45 #[.pointer (some ⟨q, 0, none⟩)] w (KeyAns .none w) := by
  go_enter Tryz.func45, Tryz.ntmps45
  go_wp2
  go_ret
  exact ⟨_, rfl, rfl, Below.refl _ _⟩
end Go.Proofs.YticjhbklcpoonaaGreatDoor
