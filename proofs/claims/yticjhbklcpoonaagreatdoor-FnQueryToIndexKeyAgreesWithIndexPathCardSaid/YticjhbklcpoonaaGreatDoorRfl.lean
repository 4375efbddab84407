/- special and readFloat at the literals: the kernel runs them. -/
import Derived.Test.YticjhbklcpoonaaGreatDoorSlices
import Derived.Test.YticjhbklcpoonaaGreatDoorFacts
namespace Go.Proofs.YticjhbklcpoonaaGreatDoor
open Go.RowKit Go.Gq
set_option maxRecDepth 100000
/-- The frame that a run comes to. -/
noncomputable def endFrame : Stepped → Frame
  | .next m => (m.gs[0]?.map (·.frame)).getD default
  | _ => default
/-- What a run of n steps comes to: the machine, and what its frame leaves. -/
noncomputable def runEnd (P : Program) (n : Nat) (f : FuncId) (fn : Func) (args : Array Value) (cs : List Frame) (w : World) : Stepped × (FuncId × FrameMode × List Deferred × CallKind) × Option Func × Result Value :=
  let s := runN P n (lone (Frame.enter P f args .normal) cs w)
  let fr := endFrame s
  (s, (fr.fn, fr.mode, fr.defers, fr.kind), P.funcs[fr.fn]?, (results fn fr.tmps).run P w)
theorem calls_of_run {P : Program} {f : FuncId} {args : Array Value} {w : World} {v : Value} (n : Nat) (fn : Func)
    (h : ∀ cs, runEnd P n f fn args cs w = (.next (lone (endFrame (runN P n (lone (Frame.enter P f args .normal) cs w))) cs w), (f, .returning, [], .normal), some fn, .ok v w)) :
    Calls P f args w fun e w' => e = .returned v ∧ w' = w := by
  intro cs
  have H := h cs
  simp only [runEnd, Prod.mk.injEq] at H
  obtain ⟨h1, ⟨h2, h3, h4, h5⟩, h6, h7⟩ := H
  exact ⟨.returned v, w, _, ⟨rfl, rfl⟩, ⟨n, h1⟩, h2, h3, h4, h5, fn, h6, h7⟩
def t15 : ByteArray := ⟨#[49, 46, 53]⟩
def t1e3 : ByteArray := ⟨#[49, 101, 51]⟩
def t1e1000 : ByteArray := ⟨#[49, 101, 49, 48, 48, 48]⟩
theorem bool2_run (w : World) : Calls Tryz.prog 157 #[.bool false] w fun e w' => e = .returned (.int .u64 0) ∧ w' = w :=
  calls_of_run 16 Tryz.f157 fun cs => by kernel_rfl
theorem special_15 (w : World) : Calls Tryz.prog 148 #[.string t15] w fun e w' => e = .returned (.tuple #[.float .f64 0, .int .i64 0, .bool false]) ∧ w' = w :=
  calls_of_run 86 Tryz.f148 fun cs => by kernel_rfl
theorem special_1e3 (w : World) : Calls Tryz.prog 148 #[.string t1e3] w fun e w' => e = .returned (.tuple #[.float .f64 0, .int .i64 0, .bool false]) ∧ w' = w :=
  calls_of_run 86 Tryz.f148 fun cs => by kernel_rfl
theorem special_1e1000 (w : World) : Calls Tryz.prog 148 #[.string t1e1000] w fun e w' => e = .returned (.tuple #[.float .f64 0, .int .i64 0, .bool false]) ∧ w' = w :=
  calls_of_run 86 Tryz.f148 fun cs => by kernel_rfl
theorem read_15 (w : World) : Calls Tryz.prog 149 #[.string t15] w fun e w' => e = .returned (.tuple #[.int .u64 15, .int .i64 (-1), .bool false, .bool false, .bool false, .int .i64 3, .bool true]) ∧ w' = w :=
  calls_of_run 473 Tryz.f149 fun cs => by kernel_rfl
theorem read_1e3 (w : World) : Calls Tryz.prog 149 #[.string t1e3] w fun e w' => e = .returned (.tuple #[.int .u64 1, .int .i64 3, .bool false, .bool false, .bool false, .int .i64 3, .bool true]) ∧ w' = w :=
  calls_of_run 545 Tryz.f149 fun cs => by kernel_rfl
theorem read_1e1000 (w : World) : Calls Tryz.prog 149 #[.string t1e1000] w fun e w' => e = .returned (.tuple #[.int .u64 1, .int .i64 1000, .bool false, .bool false, .bool false, .int .i64 6, .bool true]) ∧ w' = w :=
  calls_of_run 737 Tryz.f149 fun cs => by kernel_rfl
end Go.Proofs.YticjhbklcpoonaaGreatDoor
