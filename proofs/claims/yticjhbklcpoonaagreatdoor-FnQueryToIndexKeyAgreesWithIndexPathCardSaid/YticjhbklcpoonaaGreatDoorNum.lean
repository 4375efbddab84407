/- toNumber at a decimal literal; toIndexKey at a number, a signed number, a string. -/
import Derived.Test.YticjhbklcpoonaaGreatDoorSlices
import Derived.Test.YticjhbklcpoonaaGreatDoorFacts
import Derived.Test.YticjhbklcpoonaaGreatDoorDec
import Derived.Test.YticjhbklcpoonaaGreatDoorShp
import Derived.Lib.AtoiErrMem
namespace Go.Proofs.YticjhbklcpoonaaGreatDoor
open Go.RowKit Go.Gq
set_option maxRecDepth 100000
abbrev nb (z : Int) : Value := .iface 3 (.int .i64 z)
theorem parseInt_ok (s : ByteArray) (v : Int) (w : World) (hs : s.size ≤ 9223372036854775806) (h : Lib.parseIntB 64 s.data.toList = .ok v) :
    Calls Tryz.prog 103 #[.string s, .int .i64 10, .int .i64 64] w fun e w' => e = .returned (.tuple #[.int .i64 v, .nilIface]) ∧ Kept w w' :=
  (Go.Proofs.Tryz.strconv_ParseInt_10_at64_ok s hs v h w).mono fun e w' ⟨h1, h2⟩ => ⟨h1, by
    rcases h2 with rfl | ⟨t, rfl⟩
    · exact Below.refl _ _
    · exact Lib.bytesWorld_below _ _ _⟩
theorem int64_ok (s : ByteArray) (v : Int) (w : World) (hs : s.size ≤ 9223372036854775806) (h : Lib.parseIntB 64 s.data.toList = .ok v) :
    Calls Tryz.prog 92 #[.string s] w fun e w' => e = .returned (.tuple #[.int .i64 v, .nilIface]) ∧ Kept w w' := by
  have H := Lib.hid h
  clear h
  go_enter Tryz.func92, Tryz.ntmps92
  go_wp2_with fail
  refine (parseInt_ok s v w hs H.out).mono ?_
  rintro e w1 ⟨rfl, hk⟩
  have K := Lib.hid hk
  clear hk
  go_wp2
  exact bodyPost_ret (v := .tuple #[.int .i64 v, .nilIface]) (by simp [results, Tryz.results92, go_sem]) rfl ⟨rfl, K.out⟩
theorem parseNumber_ok (s : ByteArray) (v : Int) (w : World) (hs : s.size ≤ 9223372036854775806) (h : zzDec s.data.toList = some v) :
    Calls Tryz.prog 83 #[.string s] w fun e w' => e = .returned (nb v) ∧ Kept w w' := by
  have hb := zzDec_bd h
  have H := Lib.hid (parse_zzDec h)
  have b1 : (-9223372036854775808 : Int) ≤ v := by omega
  have b2 : v ≤ (9223372036854775807 : Int) := by omega
  clear h hb
  go_enter Tryz.func83, Tryz.ntmps83
  go_wp2_with fail
  refine (int64_ok s v w hs H.out).mono ?_
  rintro e w1 ⟨rfl, hk⟩
  have K := Lib.hid hk
  clear hk
  go_wp2
  go_ret
  exact ⟨rfl, K.out⟩
theorem toNumber_ok (s : ByteArray) (v : Int) (w : World) (hs : s.size ≤ 9223372036854775806) (h : zzDec s.data.toList = some v) :
    Calls Tryz.prog 73 #[.string s] w fun e w' => e = .returned (nb v) ∧ Kept w w' := by
  have H := Lib.hid h
  clear h
  go_enter Tryz.func73, Tryz.ntmps73
  go_wp2_with fail
  refine (parseNumber_ok s v w hs H.out).mono ?_
  rintro e w1 ⟨rfl, hk⟩
  go_wp2
  go_ret
  exact ⟨rfl, hk⟩
/-- The Term's own toNumber: at a number. -/
theorem termNumber_ok (b : Nat) (s : ByteArray) (v : Int) (w : World) (hs : s.size ≤ 9223372036854775806) (h : zzDec s.data.toList = some v) (c0 : w.cell? ⟨b, 0, none⟩ = some (.int .i64 10)) (c5 : w.cell? ⟨b, 5, none⟩ = some (.string s)) :
    Calls Tryz.prog 84 #[.pointer (some ⟨b, 0, none⟩)] w fun e w' => e = .returned (nb v) ∧ Kept w w' := by
  have H := Lib.hid h
  clear h
  go_enter Tryz.func84, Tryz.ntmps84
  go_wp2_with fail
  refine (toNumber_ok s v w hs H.out).mono ?_
  rintro e w1 ⟨rfl, hk⟩
  go_wp2
  go_ret
  exact ⟨rfl, hk⟩
/-- .. at any other type. -/
theorem termNumber_other (b : Nat) (ty : Int) (w : World) (c0 : w.cell? ⟨b, 0, none⟩ = some (.int .i64 ty)) (h : ty ≠ 10) :
    Calls Tryz.prog 84 #[.pointer (some ⟨b, 0, none⟩)] w fun e w' => e = .returned .nilIface ∧ w = w' := by
  have h1 : (ty == 10) = false := by simpa using h
  go_enter Tryz.func84, Tryz.ntmps84
  go_wp2
  go_ret
  exact ⟨rfl, rfl⟩
theorem negate_ok (v : Int) (w : World) (h0 : -9223372036854775808 < v) (h1 : v ≤ 9223372036854775807) :
    Calls Tryz.prog 85 #[nb v] w fun e w' => e = .returned (nb (-v)) ∧ w = w' := by
  have q : (v == -9223372036854775808) = false := by simp; omega
  go_enter Tryz.func85, Tryz.ntmps85
  go_wp2
  go_ret
  exact ⟨rfl, rfl⟩
/-- A signed number: at '-' (operator 4) its negative. -/
theorem unaryNumber_ok (u b : Nat) (op : Int) (s : ByteArray) (v y : Int) (hy : y = if op = 4 then -v else v) (w : World) (hs : s.size ≤ 9223372036854775806) (h : zzDec s.data.toList = some v) (u0 : w.cell? ⟨u, 0, none⟩ = some (.int .i64 op)) (u1 : w.cell? ⟨u, 1, none⟩ = some (.pointer (some ⟨b, 0, none⟩)))
    (c0 : w.cell? ⟨b, 0, none⟩ = some (.int .i64 10)) (c5 : w.cell? ⟨b, 5, none⟩ = some (.string s)) :
    Calls Tryz.prog 74 #[.pointer (some ⟨u, 0, none⟩)] w fun e w' => e = .returned (nb y) ∧ Kept w w' := by
  have hb := zzDec_bd h
  have H := Lib.hid h
  clear h
  go_enter Tryz.func74, Tryz.ntmps74
  go_wp2_with fail
  refine (termNumber_ok b s v w hs H.out c0 c5).mono ?_
  rintro e w1 ⟨rfl, hk⟩
  have d0 := kept_cell hk u0
  have K := Lib.hid hk
  clear hk u0 u1 c0 c5
  have HY := Lib.hid hy
  clear hy
  by_cases ho : op = 4
  · have h2 : y = -v := by rw [HY.out, if_pos ho]
    subst ho h2
    go_wp2_with fail
    refine (negate_ok v w1 (by omega) (by omega)).mono ?_
    rintro e w2 ⟨rfl, rfl⟩
    go_wp2
    go_ret
    exact ⟨rfl, K.out⟩
  · have h2 : y = v := by rw [HY.out, if_neg ho]
    subst h2
    have q : (op == 4) = false := by simpa using ho
    go_wp2
    go_ret
    exact ⟨rfl, K.out⟩
theorem unaryNumber_other (u b : Nat) (ty : Int) (w : World) (op : Int) (_u0 : w.cell? ⟨u, 0, none⟩ = some (.int .i64 op)) (u1 : w.cell? ⟨u, 1, none⟩ = some (.pointer (some ⟨b, 0, none⟩)))
    (c0 : w.cell? ⟨b, 0, none⟩ = some (.int .i64 ty)) (h : ty ≠ 10) :
    Calls Tryz.prog 74 #[.pointer (some ⟨u, 0, none⟩)] w fun e w' => e = .returned .nilIface ∧ w = w' := by
  go_enter Tryz.func74, Tryz.ntmps74
  go_wp2_with fail
  refine (termNumber_other b ty w c0 h).mono ?_
  rintro e w2 ⟨rfl, rfl⟩
  go_wp2
  go_ret
  exact ⟨rfl, rfl⟩
theorem key_num (b : Nat) (s : ByteArray) (v : Int) (w : World) (hs : s.size ≤ 9223372036854775806) (h : zzDec s.data.toList = some v) (c0 : w.cell? ⟨b, 0, none⟩ = some (.int .i64 10)) (c5 : w.cell? ⟨b, 5, none⟩ = some (.string s)) :
    Calls Tryz.prog 60 #[.pointer (some ⟨b, 0, none⟩)] w fun e w' => e = .returned (nb v) ∧ Kept w w' := by
  have H := Lib.hid h
  clear h
  go_enter Tryz.func60, Tryz.ntmps60
  go_wp2_with fail
  refine (toNumber_ok s v w hs H.out).mono ?_
  rintro e w1 ⟨rfl, hk⟩
  go_wp2
  go_ret
  exact ⟨rfl, hk⟩
theorem key_un (b u t : Nat) (op : Int) (s : ByteArray) (v y : Int) (hy : y = if op = 4 then -v else v) (w : World) (hs : s.size ≤ 9223372036854775806) (h : zzDec s.data.toList = some v) (c0 : w.cell? ⟨b, 0, none⟩ = some (.int .i64 11)) (c6 : w.cell? ⟨b, 6, none⟩ = some (.pointer (some ⟨u, 0, none⟩)))
    (u0 : w.cell? ⟨u, 0, none⟩ = some (.int .i64 op)) (u1 : w.cell? ⟨u, 1, none⟩ = some (.pointer (some ⟨t, 0, none⟩))) (t0 : w.cell? ⟨t, 0, none⟩ = some (.int .i64 10)) (t5 : w.cell? ⟨t, 5, none⟩ = some (.string s)) :
    Calls Tryz.prog 60 #[.pointer (some ⟨b, 0, none⟩)] w fun e w' => e = .returned (nb y) ∧ Kept w w' := by
  have H := Lib.hid h
  have HY := Lib.hid hy
  clear h hy
  go_enter Tryz.func60, Tryz.ntmps60
  go_wp2_with fail
  refine (unaryNumber_ok u t op s v y HY.out w hs H.out u0 u1 t0 t5).mono ?_
  rintro e w1 ⟨rfl, hk⟩
  have K := Lib.hid hk
  clear hk
  go_wp2
  go_ret
  exact ⟨rfl, K.out⟩
theorem key_un_other (b u t : Nat) (op ty : Int) (w : World) (c0 : w.cell? ⟨b, 0, none⟩ = some (.int .i64 11)) (c6 : w.cell? ⟨b, 6, none⟩ = some (.pointer (some ⟨u, 0, none⟩)))
    (u0 : w.cell? ⟨u, 0, none⟩ = some (.int .i64 op)) (u1 : w.cell? ⟨u, 1, none⟩ = some (.pointer (some ⟨t, 0, none⟩))) (t0 : w.cell? ⟨t, 0, none⟩ = some (.int .i64 ty)) (h : ty ≠ 10) :
    Calls Tryz.prog 60 #[.pointer (some ⟨b, 0, none⟩)] w fun e w' => e = .returned .nilIface ∧ w = w' := by
  go_enter Tryz.func60, Tryz.ntmps60
  go_wp2_with fail
  refine (unaryNumber_other u t ty w op u0 u1 t0 h).mono ?_
  rintro e w1 ⟨rfl, rfl⟩
  go_wp2
  go_ret
  exact ⟨rfl, rfl⟩
theorem key_other (b : Nat) (ty : Int) (w : World) (c0 : w.cell? ⟨b, 0, none⟩ = some (.int .i64 ty)) (h1 : ty ≠ 10) (h2 : ty ≠ 11) (h3 : ty ≠ 13) :
    Calls Tryz.prog 60 #[.pointer (some ⟨b, 0, none⟩)] w fun e w' => e = .returned .nilIface ∧ w = w' := by
  have q1 : (ty == 10) = false := by simpa using h1
  have q2 : (ty == 11) = false := by simpa using h2
  have q3 : (ty == 13) = false := by simpa using h3
  go_enter Tryz.func60, Tryz.ntmps60
  go_wp2
  go_ret
  exact ⟨rfl, rfl⟩
section
theorem eql_queries (a : Option Addr) (l c : Nat) (w : World) : (binOp .eql 103 (.slice a l c) (.slice none 0 0)).run Tryz.prog w = .ok (.bool a.isNone) w := eql_slice_nil w _ _ a l c Tryz.underlying103
attribute [local go_sem] eql_queries
theorem key_str (b q : Nat) (s : ByteArray) (qa : Option Addr) (ql qc : Nat) (w : World) (c0 : w.cell? ⟨b, 0, none⟩ = some (.int .i64 13)) (c8 : w.cell? ⟨b, 8, none⟩ = some (.pointer (some ⟨q, 0, none⟩)))
    (s0 : w.cell? ⟨q, 0, none⟩ = some (.string s)) (s1 : w.cell? ⟨q, 1, none⟩ = some (.slice qa ql qc)) :
    Calls Tryz.prog 60 #[.pointer (some ⟨b, 0, none⟩)] w fun e w' => e = .returned (if qa.isNone = true then .iface 9 (.string s) else .nilIface) ∧ w = w' := by
  cases qa with
  | none =>
    go_enter Tryz.func60, Tryz.ntmps60
    go_wp2
    go_ret
    exact ⟨by simp, rfl⟩
  | some a =>
    go_enter Tryz.func60, Tryz.ntmps60
    go_wp2
    go_ret
    exact ⟨by simp, rfl⟩
end
end Go.Proofs.YticjhbklcpoonaaGreatDoor
