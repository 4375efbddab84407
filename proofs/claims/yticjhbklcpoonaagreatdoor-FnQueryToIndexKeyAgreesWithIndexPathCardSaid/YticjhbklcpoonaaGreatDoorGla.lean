/- What the variables' cells hold, off the list that a row lays. -/
import Derived.Test.YticjhbklcpoonaaGreatDoorRows
import Derived.Test.YticjhbklcpoonaaGreatDoorPfl
import Derived.Test.YticjhbklcpoonaaGreatDoorIn
import Derived.Stop.LaidErr
import Derived.Lib.LaidU8
import Derived.LaidMore
namespace Go.Proofs.YticjhbklcpoonaaGreatDoor
open Go.ChangeShapes Go.WideShapes Go.ChangeAt Go.RowKit Go.Gq
set_option maxRecDepth 100000
theorem star_es : "*" ++ "errors.errorString" = "*errors.errorString" := by decide
theorem row_es (u : TypeId) (h : Tryz.prog.typeName? 3 u = some "*errors.errorString") : u = 252 :=
  typeName_ptr_named (nm := "errors.errorString") (by rw [star_es]; kernel_rfl) (by kernel_rfl) (by decide) u (by rw [star_es]; exact h)
theorem trod_flt {H : Type} {enc : TypeId × Value → H} {P : Program} {w : World} {base fuel : Nat} {sp : Nat → Bool} {held : Bool} {t : TypeId} {k : FloatKind} {v : Value} {d : DataW H} {q : List MemPlace} (ht : P.underlying t = some (.float k))
    (h : DataW.trod enc P w base sp held fuel t [v] = some (d, q)) : ∃ x, v = .float k x ∧ d = .lit (.float k x) := by
  cases fuel with
  | zero => simp [DataW.trod] at h
  | succ n =>
    unfold DataW.trod at h
    rw [ht] at h
    split at h <;> simp_all
theorem err_cell {W : World} {n : String} {g : Nat} {text : List UInt8} {r : List (String × DataW Unit)} (h : laidMet Tryz.prog ((n, .iface "*errors.errorString" (.ptr (.agg [.lit (.string text)]))) :: r) W) (hg : Tryz.prog.globalNamed n = some g) (ht : (Tryz.prog.globals[g]?).map (·.type) = some 128) :
    ∃ p, W.cell? ⟨g, 0, none⟩ = some (.iface 252 (.pointer (some p))) := by
  obtain ⟨a, s, hv, _⟩ := laid_sentinel h hg ht Tryz.underlying128 row_es Tryz.underlying252 Tryz.underlying254 rfl rfl Tryz.underlying9 (by kernel_rfl) (by kernel_rfl)
  exact ⟨a, by rw [World.var?_cell hg hv 0]; rfl⟩
theorem opt_cell {W : World} (h : Lib.VarReads Tryz.prog W "internal/strconv.optimize" (.lit (.bool true))) : W.cell? ⟨7, 0, none⟩ = some (.bool true) := by
  obtain ⟨g, t, cs, fuel, p, hg, ht, hv, hd⟩ := h
  obtain rfl := Option.some.inj (hg.symm.trans (show Tryz.prog.globalNamed "internal/strconv.optimize" = some 7 by kernel_rfl))
  obtain rfl := Option.some.inj (ht.symm.trans (show (Tryz.prog.globals[7]?).map (·.type) = some 4 by kernel_rfl))
  obtain ⟨b, hc, hx⟩ := DataW.trod_bool Tryz.underlying4 hd
  simp only [Prod.mk.injEq, DataW.lit.injEq, Lit.bool.injEq] at hx
  obtain ⟨rfl, _⟩ := hx
  rw [World.var?_cell hg hv 0, ← Array.getElem?_toList, hc]
  rfl
theorem mb_cell {W : World} (h : Lib.VarReads Tryz.prog W "internal/strconv.float64info" (.agg [.lit (.int .u64 52), .lit (.int .u64 11), .lit (.int .i64 (-1023))])) : W.cell? ⟨8, 0, none⟩ = some (.int .u64 52) := by
  obtain ⟨g, t, cs, fuel, p, hg, ht, hv, hd⟩ := h
  obtain rfl := Option.some.inj (hg.symm.trans (show Tryz.prog.globalNamed "internal/strconv.float64info" = some 8 by kernel_rfl))
  obtain rfl := Option.some.inj (ht.symm.trans (show (Tryz.prog.globals[8]?).map (·.type) = some 262 by kernel_rfl))
  obtain ⟨xs, n, rfl, hx, hl, hxl, hall⟩ := DataW.trod_struct Tryz.underlying262 hd
  have h0 := hall 0 _ rfl
  rcases xs with _ | ⟨x0, xs⟩
  · simp at hxl
  simp only [List.getElem?_cons_zero] at h0
  simp only [List.map_cons, Prod.mk.injEq, DataW.agg.injEq, List.cons.injEq] at hx
  obtain ⟨z, hz, hx0, _⟩ := DataW.trod_int (k := .u64) Tryz.underlying203 h0
  have e : x0.1 = .lit (.int .u64 z) := by rw [hx0]
  have e2 := hx.1.1.trans e
  simp only [DataW.lit.injEq, Lit.int.injEq, true_and] at e2
  subst e2
  rw [World.var?_cell hg hv 0, ← Array.getElem?_toList]
  have := congrArg (·[0]?) hz
  simpa [List.getElem?_take, List.getElem?_drop, show Tryz.prog.cellsOf 203 = 1 by kernel_rfl] using this
theorem pow_cell {W : World} {x0 x1 x2 x3 : Nat} {ds : List (DataW Unit)} (hn : ds.length = 19) (h : Lib.VarReads Tryz.prog W "internal/strconv.float64pow10" (.slice (.lit (.float .f64 x0) :: .lit (.float .f64 x1) :: .lit (.float .f64 x2) :: .lit (.float .f64 x3) :: ds) [])) :
    ∃ b o, W.cell? ⟨11, 0, none⟩ = some (.slice (some ⟨b, o, none⟩) 23 23) ∧ W.cell? ⟨b, o + 1, none⟩ = some (.float .f64 x1) ∧ W.cell? ⟨b, o + 3, none⟩ = some (.float .f64 x3) := by
  obtain ⟨g, t, cs, fuel, p, hg, ht, hv, hd⟩ := h
  obtain rfl := Option.some.inj (hg.symm.trans (show Tryz.prog.globalNamed "internal/strconv.float64pow10" = some 11 by kernel_rfl))
  obtain rfl := Option.some.inj (ht.symm.trans (show (Tryz.prog.globals[11]?).map (·.type) = some 300 by kernel_rfl))
  obtain ⟨a, cap, hcs, hle, hel⟩ := open_row Tryz.underlying300 (show Tryz.prog.cellsOf 69 = 1 by kernel_rfl) hd
  have hcap : cap = 23 := by
    rcases DataW.trod_slice Tryz.underlying300 hd with ⟨_, hx⟩ | ⟨a', len, cap', elems, rest, n, _, hcs', hx, _, hl, _, hlen, _, hsp, _⟩
    · simp at hx
    · rw [hcs] at hcs'
      simp only [List.cons.injEq, Value.slice.injEq, and_true] at hcs'
      simp only [Prod.mk.injEq, DataW.slice.injEq] at hx
      have hr : rest = [] := by simpa using hx.1.2.symm
      have := (hsp rfl).1
      rw [hr] at this
      simp only [List.length_nil] at this
      have h2 := hcs'.2.1
      simp only [List.length_cons, hn] at h2
      omega
  subst hcap
  obtain ⟨v1, n1, q1, c1, t1⟩ := hel 1 _ rfl
  obtain ⟨v3, n3, q3, c3, t3⟩ := hel 3 _ rfl
  obtain ⟨y1, rfl, e1⟩ := trod_flt Tryz.underlying69 t1
  obtain ⟨y3, rfl, e3⟩ := trod_flt Tryz.underlying69 t3
  simp only [DataW.lit.injEq, Lit.float.injEq, true_and] at e1 e3
  subst e1 e3
  obtain ⟨b, o, spot⟩ := a
  obtain ⟨v0, n0, q0, c0, _⟩ := hel 0 _ rfl
  have hs : spot = none := by simpa [Addr.add] using World.cell?_spot c0
  subst hs
  refine ⟨b, o, ?_, ?_, ?_⟩
  · rw [World.var?_cell hg hv 0, ← Array.getElem?_toList, hcs]
    simp [hn]
  · simpa [Addr.add] using c1
  · simpa [Addr.add] using c3
theorem gl_of_laid {W : World} (hL : laidMet Tryz.prog Rows.fnQueryToIndexKeyCaseTableRow.laid W) : Gl W := by
  refine ⟨opt_cell (Lib.laidMet.reads hL ?_), mb_cell (Lib.laidMet.reads hL ?_), ?_, ?_, ?_, ?_⟩
  · exact .tail _ (.tail _ (.tail _ (.tail _ (.head _))))
  · exact .tail _ (.tail _ (.tail _ (.head _)))
  · exact err_cell (n := "io.EOF") hL.tail.tail.tail.tail.tail.tail.tail.tail.tail.tail.tail (by kernel_rfl) (by kernel_rfl)
  · exact err_cell (n := "strconv.ErrSyntax") hL.tail.tail.tail.tail.tail.tail.tail.tail.tail.tail (by kernel_rfl) (by kernel_rfl)
  · exact err_cell (n := "strconv.ErrRange") hL.tail.tail.tail.tail.tail.tail.tail.tail.tail (by kernel_rfl) (by kernel_rfl)
  · have h : Lib.VarReads Tryz.prog W "internal/strconv.float64pow10" Rows.laid_internal_strconv_float64pow10 := Lib.laidMet.reads hL (.tail _ (.tail _ (.tail _ (.tail _ (.tail _ (.tail _ (.head _)))))))
    unfold Rows.laid_internal_strconv_float64pow10 at h
    exact pow_cell rfl h
end Go.Proofs.YticjhbklcpoonaaGreatDoor
