/- ParseFloat at the three literals that hold a dot or an e. -/
import Derived.Test.YticjhbklcpoonaaGreatDoorRfl
import Derived.Test.YticjhbklcpoonaaGreatDoorShp
import Derived.Lib.Hide
import Derived.Lib.AtoiErrMem
namespace Go.Proofs.YticjhbklcpoonaaGreatDoor
open Go.RowKit Go.Gq
set_option maxRecDepth 100000
/-- What the globals hold. -/
structure Gl (w : World) : Prop where
  opt : w.cell? ⟨7, 0, none⟩ = some (.bool true)
  mb : w.cell? ⟨8, 0, none⟩ = some (.int .u64 52)
  eof : ∃ p, w.cell? ⟨1, 0, none⟩ = some (.iface 252 (.pointer (some p)))
  syn : ∃ p, w.cell? ⟨2, 0, none⟩ = some (.iface 252 (.pointer (some p)))
  rng : ∃ p, w.cell? ⟨3, 0, none⟩ = some (.iface 252 (.pointer (some p)))
  pow : ∃ b o, w.cell? ⟨11, 0, none⟩ = some (.slice (some ⟨b, o, none⟩) 23 23) ∧ w.cell? ⟨b, o + 1, none⟩ = some (.float .f64 4621819117588971520) ∧ w.cell? ⟨b, o + 3, none⟩ = some (.float .f64 4652007308841189376)
theorem quo_15 (w : World) : (binOp .quo 69 (.float .f64 (floatOfInt .f64 15)) (.float .f64 4621819117588971520)).run Tryz.prog w = .ok (.float .f64 4609434218613702656) w := by kernel_rfl
theorem mul_1e3 (w : World) : (binOp .mul 69 (.float .f64 (floatOfInt .f64 1)) (.float .f64 4652007308841189376)).run Tryz.prog w = .ok (.float .f64 4652007308841189376) w := by kernel_rfl
theorem frombits_inf (w : World) : (callFunc 158 #[.int .u64 (bits .or .u64 0 9218868437227405312)]).run Tryz.prog w = .ok (.value (.float .f64 9218868437227405312)) w := by kernel_rfl
theorem ord_a : FloatKind.f64.format.order (floatOfInt .f64 1) 4831355200913801216 = some .lt := by kernel_rfl
theorem ord_b : FloatKind.f64.format.order (floatOfInt .f64 1) 14054727237768577024 = some .gt := by kernel_rfl
theorem exact_15 (w : World) (G : Gl w) : Calls Tryz.prog 159 #[.int .u64 15, .int .i64 (-1), .bool false] w fun e w' => (∃ b, e = .returned (.tuple #[.float .f64 b, .bool true])) ∧ w' = w := by
  have c8 := G.mb
  obtain ⟨b, o, c11, c1, _⟩ := G.pow
  clear G
  go_enter Tryz.func159, Tryz.ntmps159
  have q1 := quo_15 w
  go_wp2
  exact bodyPost_ret (v := .tuple #[.float .f64 4609434218613702656, .bool true]) (by simp [results, Tryz.results159, go_sem]) rfl ⟨⟨_, rfl⟩, rfl⟩
theorem exact_1e3 (w : World) (G : Gl w) : Calls Tryz.prog 159 #[.int .u64 1, .int .i64 3, .bool false] w fun e w' => (∃ b, e = .returned (.tuple #[.float .f64 b, .bool true])) ∧ w' = w := by
  have c8 := G.mb
  obtain ⟨b, o, c11, _, c1⟩ := G.pow
  clear G
  go_enter Tryz.func159, Tryz.ntmps159
  have q1 := mul_1e3 w
  have q2 := ord_a
  have q3 := ord_b
  go_wp2
  exact bodyPost_ret (v := .tuple #[.float .f64 4652007308841189376, .bool true]) (by simp [results, Tryz.results159, go_sem]) rfl ⟨⟨_, rfl⟩, rfl⟩
theorem atof_15 (w : World) (G : Gl w) : Calls Tryz.prog 137 #[.string t15] w fun e w' => (∃ b, e = .returned (.tuple #[.float .f64 b, .int .i64 3, .nilIface])) ∧ w' = w := by
  have c7 := G.opt
  go_enter Tryz.func137, Tryz.ntmps137
  go_wp2_with fail
  refine (special_15 w).mono ?_
  rintro e w1 ⟨rfl, rfl⟩
  go_wp2_with fail
  refine (read_15 w1).mono ?_
  rintro e w2 ⟨rfl, rfl⟩
  go_wp2_with fail
  refine (bool2_run w2).mono ?_
  rintro e w3 ⟨rfl, rfl⟩
  go_wp2_with fail
  refine (exact_15 w3 G).mono ?_
  rintro e w4 ⟨⟨b, rfl⟩, rfl⟩
  go_wp2
  exact bodyPost_ret (v := .tuple #[.float .f64 b, .int .i64 3, .nilIface]) (by simp [results, Tryz.results137, go_sem]) rfl ⟨⟨_, rfl⟩, rfl⟩
theorem atof_1e3 (w : World) (G : Gl w) : Calls Tryz.prog 137 #[.string t1e3] w fun e w' => (∃ b, e = .returned (.tuple #[.float .f64 b, .int .i64 3, .nilIface])) ∧ w' = w := by
  have c7 := G.opt
  go_enter Tryz.func137, Tryz.ntmps137
  go_wp2_with fail
  refine (special_1e3 w).mono ?_
  rintro e w1 ⟨rfl, rfl⟩
  go_wp2_with fail
  refine (read_1e3 w1).mono ?_
  rintro e w2 ⟨rfl, rfl⟩
  go_wp2_with fail
  refine (bool2_run w2).mono ?_
  rintro e w3 ⟨rfl, rfl⟩
  go_wp2_with fail
  refine (exact_1e3 w3 G).mono ?_
  rintro e w4 ⟨⟨b, rfl⟩, rfl⟩
  go_wp2
  exact bodyPost_ret (v := .tuple #[.float .f64 b, .int .i64 3, .nilIface]) (by simp [results, Tryz.results137, go_sem]) rfl ⟨⟨_, rfl⟩, rfl⟩
theorem atof_1e1000 (w : World) (G : Gl w) : Calls Tryz.prog 137 #[.string t1e1000] w fun e w' => (∃ b, e = .returned (.tuple #[.float .f64 b, .int .i64 6, .iface 215 (.int .i64 1)])) ∧ w' = w := by
  have c7 := G.opt
  go_enter Tryz.func137, Tryz.ntmps137
  go_wp2_with fail
  refine (special_1e1000 w).mono ?_
  rintro e w1 ⟨rfl, rfl⟩
  go_wp2_with fail
  refine (read_1e1000 w1).mono ?_
  rintro e w2 ⟨rfl, rfl⟩
  go_wp2_with fail
  refine (bool2_run w2).mono ?_
  rintro e w3 ⟨rfl, rfl⟩
  have hr := frombits_inf w3
  go_wp2
  exact bodyPost_ret (v := .tuple #[.float .f64 9218868437227405312, .int .i64 6, .iface 215 (.int .i64 1)]) (by simp [results, Tryz.results137, go_sem]) rfl ⟨⟨_, rfl⟩, rfl⟩
theorem pre_15 (w : World) (G : Gl w) : Calls Tryz.prog 124 #[.string t15, .int .i64 64] w fun e w' => (∃ b, e = .returned (.tuple #[.float .f64 b, .int .i64 3, .nilIface])) ∧ w' = w := by
  go_enter Tryz.func124, Tryz.ntmps124
  go_wp2_with fail
  refine (atof_15 w G).mono ?_
  rintro e w1 ⟨⟨b, rfl⟩, rfl⟩
  go_wp2
  exact bodyPost_ret (v := .tuple #[.float .f64 b, .int .i64 3, .nilIface]) (by simp [results, Tryz.results124, go_sem]) rfl ⟨⟨_, rfl⟩, rfl⟩
theorem ipf_15 (w : World) (G : Gl w) : Calls Tryz.prog 114 #[.string t15, .int .i64 64] w fun e w' => (∃ b, e = .returned (.tuple #[.float .f64 b, .nilIface])) ∧ w' = w := by
  go_enter Tryz.func114, Tryz.ntmps114
  go_wp2_with fail
  refine (pre_15 w G).mono ?_
  rintro e w1 ⟨⟨b, rfl⟩, rfl⟩
  go_wp2
  exact bodyPost_ret (v := .tuple #[.float .f64 b, .nilIface]) (by simp [results, Tryz.results114, go_sem]) rfl ⟨⟨_, rfl⟩, rfl⟩
theorem pre_1e3 (w : World) (G : Gl w) : Calls Tryz.prog 124 #[.string t1e3, .int .i64 64] w fun e w' => (∃ b, e = .returned (.tuple #[.float .f64 b, .int .i64 3, .nilIface])) ∧ w' = w := by
  go_enter Tryz.func124, Tryz.ntmps124
  go_wp2_with fail
  refine (atof_1e3 w G).mono ?_
  rintro e w1 ⟨⟨b, rfl⟩, rfl⟩
  go_wp2
  exact bodyPost_ret (v := .tuple #[.float .f64 b, .int .i64 3, .nilIface]) (by simp [results, Tryz.results124, go_sem]) rfl ⟨⟨_, rfl⟩, rfl⟩
theorem ipf_1e3 (w : World) (G : Gl w) : Calls Tryz.prog 114 #[.string t1e3, .int .i64 64] w fun e w' => (∃ b, e = .returned (.tuple #[.float .f64 b, .nilIface])) ∧ w' = w := by
  go_enter Tryz.func114, Tryz.ntmps114
  go_wp2_with fail
  refine (pre_1e3 w G).mono ?_
  rintro e w1 ⟨⟨b, rfl⟩, rfl⟩
  go_wp2
  exact bodyPost_ret (v := .tuple #[.float .f64 b, .nilIface]) (by simp [results, Tryz.results114, go_sem]) rfl ⟨⟨_, rfl⟩, rfl⟩
theorem pre_1e1000 (w : World) (G : Gl w) : Calls Tryz.prog 124 #[.string t1e1000, .int .i64 64] w fun e w' => (∃ b, e = .returned (.tuple #[.float .f64 b, .int .i64 6, .iface 215 (.int .i64 1)])) ∧ w' = w := by
  go_enter Tryz.func124, Tryz.ntmps124
  go_wp2_with fail
  refine (atof_1e1000 w G).mono ?_
  rintro e w1 ⟨⟨b, rfl⟩, rfl⟩
  go_wp2
  exact bodyPost_ret (v := .tuple #[.float .f64 b, .int .i64 6, .iface 215 (.int .i64 1)]) (by simp [results, Tryz.results124, go_sem]) rfl ⟨⟨_, rfl⟩, rfl⟩
theorem ipf_1e1000 (w : World) (G : Gl w) : Calls Tryz.prog 114 #[.string t1e1000, .int .i64 64] w fun e w' => (∃ b, e = .returned (.tuple #[.float .f64 b, .iface 215 (.int .i64 1)])) ∧ w' = w := by
  go_enter Tryz.func114, Tryz.ntmps114
  go_wp2_with fail
  refine (pre_1e1000 w G).mono ?_
  rintro e w1 ⟨⟨b, rfl⟩, rfl⟩
  go_wp2
  exact bodyPost_ret (v := .tuple #[.float .f64 b, .iface 215 (.int .i64 1)]) (by simp [results, Tryz.results114, go_sem]) rfl ⟨⟨_, rfl⟩, rfl⟩
theorem pf_15 (w : World) (G : Gl w) : Calls Tryz.prog 105 #[.string t15, .int .i64 64] w fun e w' => (∃ b, e = .returned (.tuple #[.float .f64 b, .nilIface])) ∧ w' = w := by
  go_enter Tryz.func105, Tryz.ntmps105
  go_wp2_with fail
  refine (ipf_15 w G).mono ?_
  rintro e w1 ⟨⟨b, rfl⟩, rfl⟩
  go_wp2
  exact bodyPost_ret (v := .tuple #[.float .f64 b, .nilIface]) (by simp [results, Tryz.results105, go_sem]) rfl ⟨⟨_, rfl⟩, rfl⟩
theorem f64_15 (w : World) (G : Gl w) : Calls Tryz.prog 95 #[.string t15] w fun e w' => (∃ b, e = .returned (.tuple #[.float .f64 b, .nilIface])) ∧ w' = w := by
  go_enter Tryz.func95, Tryz.ntmps95
  go_wp2_with fail
  refine (pf_15 w G).mono ?_
  rintro e w1 ⟨⟨b, rfl⟩, rfl⟩
  go_wp2
  exact bodyPost_ret (v := .tuple #[.float .f64 b, .nilIface]) (by simp [results, Tryz.results95, go_sem]) rfl ⟨⟨_, rfl⟩, rfl⟩
theorem pf_1e3 (w : World) (G : Gl w) : Calls Tryz.prog 105 #[.string t1e3, .int .i64 64] w fun e w' => (∃ b, e = .returned (.tuple #[.float .f64 b, .nilIface])) ∧ w' = w := by
  go_enter Tryz.func105, Tryz.ntmps105
  go_wp2_with fail
  refine (ipf_1e3 w G).mono ?_
  rintro e w1 ⟨⟨b, rfl⟩, rfl⟩
  go_wp2
  exact bodyPost_ret (v := .tuple #[.float .f64 b, .nilIface]) (by simp [results, Tryz.results105, go_sem]) rfl ⟨⟨_, rfl⟩, rfl⟩
theorem f64_1e3 (w : World) (G : Gl w) : Calls Tryz.prog 95 #[.string t1e3] w fun e w' => (∃ b, e = .returned (.tuple #[.float .f64 b, .nilIface])) ∧ w' = w := by
  go_enter Tryz.func95, Tryz.ntmps95
  go_wp2_with fail
  refine (pf_1e3 w G).mono ?_
  rintro e w1 ⟨⟨b, rfl⟩, rfl⟩
  go_wp2
  exact bodyPost_ret (v := .tuple #[.float .f64 b, .nilIface]) (by simp [results, Tryz.results95, go_sem]) rfl ⟨⟨_, rfl⟩, rfl⟩
theorem pf_1e1000 (w : World) (G : Gl w) : Calls Tryz.prog 105 #[.string t1e1000, .int .i64 64] w fun e w' => (∃ b N, e = .returned (.tuple #[.float .f64 b, .iface 218 (.pointer (some ⟨N, 0, none⟩))])) ∧ Kept w w' := by
  go_enter Tryz.func105, Tryz.ntmps105
  go_wp2_with fail
  refine (ipf_1e1000 w G).mono ?_
  rintro e w1 ⟨⟨b, rfl⟩, rfl⟩
  obtain ⟨p, hp⟩ := G.rng
  go_wp2_with fail
  refine (Go.Proofs.Tryz.strconv_toError_range _ t1e1000 _ _ _ w1 (by decide) hp (.inr ⟨_, _, rfl⟩)).mono ?_
  rintro e w2 ⟨N, rfl, _, _, hk⟩
  have K := Lib.hid (show Kept w1 w2 from hk)
  clear hk hp
  go_wp2
  exact bodyPost_ret (v := .tuple #[.float .f64 b, .iface 218 (.pointer (some ⟨N, 0, none⟩))]) (by simp [results, Tryz.results105, go_sem]) rfl ⟨⟨_, _, rfl⟩, K.out⟩
theorem f64_1e1000 (w : World) (G : Gl w) : Calls Tryz.prog 95 #[.string t1e1000] w fun e w' => (∃ b N, e = .returned (.tuple #[.float .f64 b, .iface 218 (.pointer (some ⟨N, 0, none⟩))])) ∧ Kept w w' := by
  go_enter Tryz.func95, Tryz.ntmps95
  go_wp2_with fail
  refine (pf_1e1000 w G).mono ?_
  rintro e w1 ⟨⟨b, N, rfl⟩, hk⟩
  have K := Lib.hid hk
  clear hk
  go_wp2
  exact bodyPost_ret (v := .tuple #[.float .f64 b, .iface 218 (.pointer (some ⟨N, 0, none⟩))]) (by simp [results, Tryz.results95, go_sem]) rfl ⟨⟨_, _, rfl⟩, K.out⟩
end Go.Proofs.YticjhbklcpoonaaGreatDoor
