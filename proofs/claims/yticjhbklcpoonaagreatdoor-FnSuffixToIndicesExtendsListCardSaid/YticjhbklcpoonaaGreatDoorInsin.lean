/- What comes in: the struct that describes a suffix. -/
import Derived.Test.YticjhbklcpoonaaGreatDoorIn
import Derived.Test.YticjhbklcpoonaaGreatDoorSxa
import Derived.WideShapes
namespace Go.Proofs.YticjhbklcpoonaaGreatDoor
open Go.ChangeShapes Go.WideShapes Go.ChangeAt Go.RowKit Go.Gq
theorem list12 {α : Type} (l : List α) (h : l.length = 12) : ∃ a0 a1 a2 a3 a4 a5 a6 a7 a8 a9 a10 a11, l = [a0, a1, a2, a3, a4, a5, a6, a7, a8, a9, a10, a11] := by
  match l, h with
  | [a0, a1, a2, a3, a4, a5, a6, a7, a8, a9, a10, a11], _ => exact ⟨a0, a1, a2, a3, a4, a5, a6, a7, a8, a9, a10, a11, rfl⟩
theorem cells55 : Tryz.prog.cellsOf 55 = 12 := by kernel_rfl
theorem cellsB : Tryz.prog.cellsOf 4 = 1 := by kernel_rfl
theorem cellsS : Tryz.prog.cellsOf 9 = 1 := by kernel_rfl
theorem cellsI : Tryz.prog.cellsOf 3 = 1 := by kernel_rfl
theorem reads_sin {H : Type} {enc : TypeId × Value → H} {base : Nat} {W : World} {v : Value} {d : DataW H} {p : List MemPlace} (hv : ∃ cs, v = .agg cs ∧ cs.size = Tryz.prog.cellsOf 55)
    (h : DataW.Trod enc Tryz.prog W base (fun _ => true) true 55 v d p) :
    ∃ (hi : Bool) (nm : ByteArray) (hs : Bool) (st : ByteArray) (it sl : Bool) (sk : Int) (s : ByteArray) (ek : Int) (es : ByteArray) (ir op : Bool), v = sin hi nm hs st it sl sk s ek es ir op ∧ nm.size ≤ maxLen ∧ st.size ≤ maxLen ∧ s.size ≤ maxLen ∧ es.size ≤ maxLen := by
  obtain ⟨cs, rfl, hsz⟩ := hv
  obtain ⟨fuel, hf⟩ := h
  obtain ⟨xs, n, _, _, hl, hlen, hfl⟩ := DataW.trod_struct Tryz.underlying55 hf
  rw [cells55] at hsz
  obtain ⟨a0, a1, a2, a3, a4, a5, a6, a7, a8, a9, a10, a11, ha⟩ := list12 cs.toList (by rw [Array.length_toList]; exact hsz)
  obtain ⟨x0, x1, x2, x3, x4, x5, x6, x7, x8, x9, x10, x11, hx⟩ := list12 xs (by rw [hlen]; rfl)
  have hc : (Value.agg cs).cells.toList = [a0, a1, a2, a3, a4, a5, a6, a7, a8, a9, a10, a11] := ha
  rw [hc] at hfl
  have f0 := hfl 0 _ rfl
  change DataW.trod enc Tryz.prog W base (fun _ => true) true n 4 (([a0, a1, a2, a3, a4, a5, a6, a7, a8, a9, a10, a11].drop 0).take (Tryz.prog.cellsOf 4)) = _ at f0
  rw [cellsB, hx] at f0
  have f1 := hfl 1 _ rfl
  change DataW.trod enc Tryz.prog W base (fun _ => true) true n 9 (([a0, a1, a2, a3, a4, a5, a6, a7, a8, a9, a10, a11].drop 1).take (Tryz.prog.cellsOf 9)) = _ at f1
  rw [cellsS, hx] at f1
  have f2 := hfl 2 _ rfl
  change DataW.trod enc Tryz.prog W base (fun _ => true) true n 4 (([a0, a1, a2, a3, a4, a5, a6, a7, a8, a9, a10, a11].drop 2).take (Tryz.prog.cellsOf 4)) = _ at f2
  rw [cellsB, hx] at f2
  have f3 := hfl 3 _ rfl
  change DataW.trod enc Tryz.prog W base (fun _ => true) true n 9 (([a0, a1, a2, a3, a4, a5, a6, a7, a8, a9, a10, a11].drop 3).take (Tryz.prog.cellsOf 9)) = _ at f3
  rw [cellsS, hx] at f3
  have f4 := hfl 4 _ rfl
  change DataW.trod enc Tryz.prog W base (fun _ => true) true n 4 (([a0, a1, a2, a3, a4, a5, a6, a7, a8, a9, a10, a11].drop 4).take (Tryz.prog.cellsOf 4)) = _ at f4
  rw [cellsB, hx] at f4
  have f5 := hfl 5 _ rfl
  change DataW.trod enc Tryz.prog W base (fun _ => true) true n 4 (([a0, a1, a2, a3, a4, a5, a6, a7, a8, a9, a10, a11].drop 5).take (Tryz.prog.cellsOf 4)) = _ at f5
  rw [cellsB, hx] at f5
  have f6 := hfl 6 _ rfl
  change DataW.trod enc Tryz.prog W base (fun _ => true) true n 3 (([a0, a1, a2, a3, a4, a5, a6, a7, a8, a9, a10, a11].drop 6).take (Tryz.prog.cellsOf 3)) = _ at f6
  rw [cellsI, hx] at f6
  have f7 := hfl 7 _ rfl
  change DataW.trod enc Tryz.prog W base (fun _ => true) true n 9 (([a0, a1, a2, a3, a4, a5, a6, a7, a8, a9, a10, a11].drop 7).take (Tryz.prog.cellsOf 9)) = _ at f7
  rw [cellsS, hx] at f7
  have f8 := hfl 8 _ rfl
  change DataW.trod enc Tryz.prog W base (fun _ => true) true n 3 (([a0, a1, a2, a3, a4, a5, a6, a7, a8, a9, a10, a11].drop 8).take (Tryz.prog.cellsOf 3)) = _ at f8
  rw [cellsI, hx] at f8
  have f9 := hfl 9 _ rfl
  change DataW.trod enc Tryz.prog W base (fun _ => true) true n 9 (([a0, a1, a2, a3, a4, a5, a6, a7, a8, a9, a10, a11].drop 9).take (Tryz.prog.cellsOf 9)) = _ at f9
  rw [cellsS, hx] at f9
  have f10 := hfl 10 _ rfl
  change DataW.trod enc Tryz.prog W base (fun _ => true) true n 4 (([a0, a1, a2, a3, a4, a5, a6, a7, a8, a9, a10, a11].drop 10).take (Tryz.prog.cellsOf 4)) = _ at f10
  rw [cellsB, hx] at f10
  have f11 := hfl 11 _ rfl
  change DataW.trod enc Tryz.prog W base (fun _ => true) true n 4 (([a0, a1, a2, a3, a4, a5, a6, a7, a8, a9, a10, a11].drop 11).take (Tryz.prog.cellsOf 4)) = _ at f11
  rw [cellsB, hx] at f11
  obtain ⟨b0, e0, _⟩ := DataW.trod_bool (cs := [a0]) (x := x0) Tryz.underlying4 f0
  obtain ⟨b1, e1, _, m1⟩ := DataW.trod_string (cs := [a1]) (x := x1) Tryz.underlying9 f1
  obtain ⟨b2, e2, _⟩ := DataW.trod_bool (cs := [a2]) (x := x2) Tryz.underlying4 f2
  obtain ⟨b3, e3, _, m3⟩ := DataW.trod_string (cs := [a3]) (x := x3) Tryz.underlying9 f3
  obtain ⟨b4, e4, _⟩ := DataW.trod_bool (cs := [a4]) (x := x4) Tryz.underlying4 f4
  obtain ⟨b5, e5, _⟩ := DataW.trod_bool (cs := [a5]) (x := x5) Tryz.underlying4 f5
  obtain ⟨b6, e6, _, _⟩ := DataW.trod_int (cs := [a6]) (x := x6) Tryz.underlying3 f6
  obtain ⟨b7, e7, _, m7⟩ := DataW.trod_string (cs := [a7]) (x := x7) Tryz.underlying9 f7
  obtain ⟨b8, e8, _, _⟩ := DataW.trod_int (cs := [a8]) (x := x8) Tryz.underlying3 f8
  obtain ⟨b9, e9, _, m9⟩ := DataW.trod_string (cs := [a9]) (x := x9) Tryz.underlying9 f9
  obtain ⟨b10, e10, _⟩ := DataW.trod_bool (cs := [a10]) (x := x10) Tryz.underlying4 f10
  obtain ⟨b11, e11, _⟩ := DataW.trod_bool (cs := [a11]) (x := x11) Tryz.underlying4 f11
  refine ⟨b0, b1, b2, b3, b4, b5, b6, b7, b8, b9, b10, b11, ?_, m1, m3, m7, m9⟩
  injection e0 with e0; injection e1 with e1; injection e2 with e2; injection e3 with e3; injection e4 with e4; injection e5 with e5; injection e6 with e6; injection e7 with e7; injection e8 with e8; injection e9 with e9; injection e10 with e10; injection e11 with e11
  subst e0 e1 e2 e3 e4 e5 e6 e7 e8 e9 e10 e11
  have : cs = [.bool b0, .string b1, .bool b2, .string b3, .bool b4, .bool b5, .int .i64 b6, .string b7, .int .i64 b8, .string b9, .bool b10, .bool b11].toArray := by rw [← ha]
  rw [this]
end Go.Proofs.YticjhbklcpoonaaGreatDoor
