/- argFunc3(funcSlice) at a string and two ints. -/
import Derived.Test.YticjhbklcpoonaaGreatDoorCvt
import Derived.Laws.EntriesVeiled
import Derived.StillTailTactics
namespace Go.Proofs.YticjhbklcpoonaaGreatDoor
open Go.RowKit Go.Gq
set_option maxRecDepth 100000
theorem cell_up {w : World} {a : Addr} {v : Value} (h : w.cell? a = some v) {o : Obj} : (w.alloc o).cell? a = some v := kept_cell (kept_alloc w o) h
theorem argFunc3_any (w : World) :
    Calls Tryz.prog 56 #[.func (Fn.func 51) #[] #[]] w fun e w' => ∃ b, e = .returned (.agg #[.int .i64 8, .bool false, .func (Fn.func 71) #[] #[.pointer (some ⟨b, 0, none⟩)]]) ∧ w'.cell? ⟨b, 0, none⟩ = some (.func (Fn.func 51) #[] #[]) ∧ Kept w w' := by
  go_enter Tryz.func56, Tryz.ntmps56
  go_wp2
  exact bodyPost_ret (v := .agg #[.int .i64 8, .bool false, .func (Fn.func 71) #[] #[.pointer (some ⟨w.heap.size, 0, none⟩)]]) (by simp [results, Tryz.results56, go_sem]) rfl ⟨w.heap.size, rfl, cell_up (cell_fresh w _ _ 0 _ rfl), (kept_alloc _ _).trans (kept_alloc _ _)⟩
theorem argFunc3c_any (x0 : Value) (b a c : Nat) (v : ByteArray) (sv ev : Value) (S E : Option Int) (hS : Ix 80 sv S) (hE : Ix 82 ev E) (w : World) (hv : v.size ≤ 1048576)
    (hb : w.cell? ⟨b, 0, none⟩ = some (.func (Fn.func 51) #[] #[])) (h0 : w.cell? ⟨a, 0, none⟩ = some (sI v)) (h1 : w.cell? ⟨a, 1, none⟩ = some ev) (h2 : w.cell? ⟨a, 2, none⟩ = some sv) :
    Calls Tryz.prog 71 #[x0, .slice (some ⟨a, 0, none⟩) 3 c, .pointer (some ⟨b, 0, none⟩)] w fun e w' => e = .returned (sI (v.extract (rpos v (stO (rcnt v) S)) (rpos v (enO (rcnt v) (stO (rcnt v) S) E)))) ∧ Kept w w' := by
  have HC := Lib.hid (funcSlice_str x0 v sv ev S E hS hE w.drew hv)
  clear hS hE
  go_enter Tryz.func71, Tryz.ntmps71
  go_wp2_with fail
  go_still_tail 11, (by kernel_rfl)
  go_wp2_with fail
  refine HC.out.mono ?_
  rintro e w1 ⟨rfl, hk⟩
  have K := Lib.hid ((kept_drew w).trans hk)
  clear hk
  go_wp2
  go_ret
  exact ⟨rfl, K.out⟩
theorem field_cb (b : Nat) (w : World) : (Instr.field 131 (.agg #[.int .i64 8, .bool false, .func (Fn.func 71) #[] #[.pointer (some ⟨b, 0, none⟩)]]) 2).run Tryz.prog w = .ok (.func (Fn.func 71) #[] #[.pointer (some ⟨b, 0, none⟩)]) w := by kernel_rfl
set_option maxHeartbeats 1000000 in
theorem zzArg_any (str : ByteArray) (e s : Int) (w : World) (hv : str.size ≤ 1048576) (e0 : -9223372036854775808 ≤ e) (e1 : e ≤ 9223372036854775807) (s0 : -9223372036854775808 ≤ s) (s1 : s ≤ 9223372036854775807) :
    Calls Tryz.prog 36 #[.string str, .int .i64 e, .int .i64 s] w fun e' w' => e' = .returned (.tuple #[.string (str.extract (rpos str (stO (rcnt str) (some s))) (rpos str (enO (rcnt str) (stO (rcnt str) (some s)) (some e)))), .bool true]) ∧ Kept w w' := by
  go_enter Tryz.func36, Tryz.ntmps36
  go_wp2_with fail
  refine (argFunc3_any w).mono ?_
  rintro e1 w1 ⟨b, rfl, hb, hk⟩
  have K1 := Lib.hid hk
  clear hk
  have hf := field_cb b
  obtain ⟨W1, hW1⟩ : ∃ W1, W1 = w1.alloc (.cells #[sI str, iI e, iI s] 20) := ⟨_, rfl⟩
  have hcb := cell_up hb (o := .cells #[sI str, iI e, iI s] 20)
  have g0 := cell_fresh w1 #[sI str, iI e, iI s] 20 0 _ rfl
  have g1 := cell_fresh w1 #[sI str, iI e, iI s] 20 1 _ rfl
  have g2 := cell_fresh w1 #[sI str, iI e, iI s] 20 2 _ rfl
  have hk1 := kept_alloc w1 (.cells #[sI str, iI e, iI s] 20)
  rw [← hW1] at hcb g0 g1 g2 hk1
  have K2 := Lib.hid (K1.out.trans hk1)
  have HG := Lib.hid (And.intro hcb (And.intro g0 (And.intro g1 g2)))
  have HW := Lib.hid hW1
  clear hb hcb g0 g1 g2 hk1 hW1 K1
  go_wp2_with fail
  rw [← HW.out]
  refine (argFunc3c_any .nilIface b w1.heap.size 3 str (iI s) (iI e) (some s) (some e) (ix_int _ s (toInt_int s) s0 s1) (ix_int _ e (toIntCeil_int e) e0 e1) W1 hv HG.out.1 HG.out.2.1 HG.out.2.2.1 HG.out.2.2.2).mono ?_
  rintro e1 w2 ⟨rfl, hk2⟩
  have K3 := Lib.hid (K2.out.trans hk2)
  clear hk2 K2
  go_wp2
  go_ret2
  exact ⟨rfl, K3.out⟩
end Go.Proofs.YticjhbklcpoonaaGreatDoor
