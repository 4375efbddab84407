/- A signed number at the four texts. -/
import Derived.Test.YticjhbklcpoonaaGreatDoorNeg
namespace Go.Proofs.YticjhbklcpoonaaGreatDoor
open Go.RowKit Go.Gq
set_option maxRecDepth 100000
theorem NkIs.n {w : World} {v : Value} (h : NkIs w v) : KeyN v := by
  rcases h with h | ⟨Z, N, h, _⟩
  · exact .inl h
  · exact .inr ⟨_, h⟩
theorem unaryNumber_lit (u b : Nat) (op : Int) (s : ByteArray) (hs : Lit4 s) (w : World) (G : Gl w) (u0 : w.cell? ⟨u, 0, none⟩ = some (.int .i64 op)) (u1 : w.cell? ⟨u, 1, none⟩ = some (.pointer (some ⟨b, 0, none⟩)))
    (c0 : w.cell? ⟨b, 0, none⟩ = some (.int .i64 10)) (c5 : w.cell? ⟨b, 5, none⟩ = some (.string s)) :
    Calls Tryz.prog 74 #[.pointer (some ⟨u, 0, none⟩)] w fun e w' => ∃ v, e = .returned v ∧ KeyN v ∧ Kept w w' := by
  go_enter Tryz.func74, Tryz.ntmps74
  go_wp2_with fail
  refine (termNumber_lit b s hs w G c0 c5).mono ?_
  rintro e w1 ⟨v, rfl, hv, hk⟩
  have d0 := kept_cell hk u0
  have K := Lib.hid hk
  have HV := Lib.hid hv
  clear hk u0 u1 c0 c5 G
  obtain ⟨t, x, hvt⟩ : ∃ t x, v = .iface t x := by
    rcases hv with ⟨b, rfl⟩ | ⟨Z, N, rfl, _⟩
    · exact ⟨_, _, rfl⟩
    · exact ⟨_, _, rfl⟩
  clear hv
  subst hvt
  by_cases ho : op = 4
  · subst ho
    go_wp2_with fail
    refine (negate_lit w1 _ HV.out).mono ?_
    rintro e w2 ⟨v2, rfl, hv2, hk2⟩
    have K2 := Lib.hid (And.intro hv2 (K.out.trans hk2))
    clear hv2 hk2
    go_wp2
    go_ret
    exact ⟨v2, rfl, K2.out.1, K2.out.2⟩
  · have q : (op == 4) = false := by simpa using ho
    go_wp2
    go_ret
    exact ⟨_, rfl, HV.out.n, K.out⟩
theorem key_un_lit (b u t : Nat) (op : Int) (s : ByteArray) (hs : Lit4 s) (w : World) (G : Gl w) (c0 : w.cell? ⟨b, 0, none⟩ = some (.int .i64 11)) (c6 : w.cell? ⟨b, 6, none⟩ = some (.pointer (some ⟨u, 0, none⟩)))
    (u0 : w.cell? ⟨u, 0, none⟩ = some (.int .i64 op)) (u1 : w.cell? ⟨u, 1, none⟩ = some (.pointer (some ⟨t, 0, none⟩))) (t0 : w.cell? ⟨t, 0, none⟩ = some (.int .i64 10)) (t5 : w.cell? ⟨t, 5, none⟩ = some (.string s)) :
    Calls Tryz.prog 60 #[.pointer (some ⟨b, 0, none⟩)] w fun e w' => ∃ v, e = .returned v ∧ KeyN v ∧ Kept w w' := by
  go_enter Tryz.func60, Tryz.ntmps60
  go_wp2_with fail
  refine (unaryNumber_lit u t op s hs w G u0 u1 t0 t5).mono ?_
  rintro e w1 ⟨v, rfl, hv, hk⟩
  have K := Lib.hid (And.intro hv hk)
  clear hk hv
  go_wp2
  go_ret
  exact ⟨v, rfl, K.out.1, K.out.2⟩
end Go.Proofs.YticjhbklcpoonaaGreatDoor
