/- toNumber, toIndexKey at the four texts. -/
import Derived.Test.YticjhbklcpoonaaGreatDoorPar
namespace Go.Proofs.YticjhbklcpoonaaGreatDoor
open Go.RowKit Go.Gq
set_option maxRecDepth 100000
/-- The four texts. -/
def Lit4 (s : ByteArray) : Prop := s = t15 ∨ s = t1e3 ∨ s = t1e1000 ∨ s = t99
theorem parse_lit (s : ByteArray) (hs : Lit4 s) (w : World) (G : Gl w) : Calls Tryz.prog 83 #[.string s] w fun e w' => ∃ v, e = .returned v ∧ NkIs w' v ∧ Kept w w' := by
  rcases hs with rfl | rfl | rfl | rfl
  · exact parse_15 w G
  · exact parse_1e3 w G
  · exact parse_1e1000 w G
  · exact parse_99 w G
theorem toNumber_lit (s : ByteArray) (hs : Lit4 s) (w : World) (G : Gl w) : Calls Tryz.prog 73 #[.string s] w fun e w' => ∃ v, e = .returned v ∧ NkIs w' v ∧ Kept w w' := by
  go_enter Tryz.func73, Tryz.ntmps73
  go_wp2_with fail
  refine (parse_lit s hs w G).mono ?_
  rintro e w1 ⟨v, rfl, hv, hk⟩
  have K := Lib.hid (And.intro hv hk)
  clear hv hk G
  go_wp2
  go_ret
  exact ⟨v, rfl, K.out.1, K.out.2⟩
theorem termNumber_lit (b : Nat) (s : ByteArray) (hs : Lit4 s) (w : World) (G : Gl w) (c0 : w.cell? ⟨b, 0, none⟩ = some (.int .i64 10)) (c5 : w.cell? ⟨b, 5, none⟩ = some (.string s)) :
    Calls Tryz.prog 84 #[.pointer (some ⟨b, 0, none⟩)] w fun e w' => ∃ v, e = .returned v ∧ NkIs w' v ∧ Kept w w' := by
  go_enter Tryz.func84, Tryz.ntmps84
  go_wp2_with fail
  refine (toNumber_lit s hs w G).mono ?_
  rintro e w1 ⟨v, rfl, hv, hk⟩
  have K := Lib.hid (And.intro hv hk)
  clear hv hk G
  go_wp2
  go_ret
  exact ⟨v, rfl, K.out.1, K.out.2⟩
theorem key_lit (b : Nat) (s : ByteArray) (hs : Lit4 s) (w : World) (G : Gl w) (c0 : w.cell? ⟨b, 0, none⟩ = some (.int .i64 10)) (c5 : w.cell? ⟨b, 5, none⟩ = some (.string s)) :
    Calls Tryz.prog 60 #[.pointer (some ⟨b, 0, none⟩)] w fun e w' => ∃ v, e = .returned v ∧ NkIs w' v ∧ Kept w w' := by
  go_enter Tryz.func60, Tryz.ntmps60
  go_wp2_with fail
  refine (toNumber_lit s hs w G).mono ?_
  rintro e w1 ⟨v, rfl, hv, hk⟩
  have K := Lib.hid (And.intro hv hk)
  clear hv hk G
  go_wp2
  go_ret
  exact ⟨v, rfl, K.out.1, K.out.2⟩
/-- A key that is a number and no int, whatever it points to. -/
def KeyN (v : Value) : Prop := (∃ b, v = .iface 69 (.float .f64 b)) ∨ (∃ a, v = .iface 167 (.pointer (some a)))
theorem negate_fl (w : World) (b : Nat) : Calls Tryz.prog 85 #[.iface 69 (.float .f64 b)] w fun e w' => ∃ v, e = .returned v ∧ KeyN v ∧ Kept w w' := by
  go_enter Tryz.func85, Tryz.ntmps85
  have hn : ∃ c, (Op.unary .neg (.float .f64 b)).run Tryz.prog w = .ok (.float .f64 c) w := ⟨_, rfl⟩
  obtain ⟨c, hn⟩ := hn
  go_wp2
  go_ret
  exact ⟨_, rfl, .inl ⟨c, rfl⟩, Below.refl _ _⟩
end Go.Proofs.YticjhbklcpoonaaGreatDoor
