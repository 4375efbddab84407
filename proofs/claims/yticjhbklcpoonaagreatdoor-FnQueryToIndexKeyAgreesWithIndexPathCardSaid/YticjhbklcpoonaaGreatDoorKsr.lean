/- zzKeyStart: the query that it builds, and the key that the query answers with. -/
import Derived.Test.YticjhbklcpoonaaGreatDoorAns
import Derived.Deep.CutBlock
import Derived.Deep.DeepCutAuto
namespace Go.Proofs.YticjhbklcpoonaaGreatDoor
open Go.RowKit Go.Gq
set_option maxRecDepth 100000
/-- A term that answers with K, in whatever query it lies. -/
def TermAt (w : World) (b : Nat) (K : KOut) : Prop := ∀ w2 q, Kept w w2 → w2.cell? ⟨q, 3, none⟩ = some (.pointer (some ⟨b, 0, none⟩)) → AnsAt w2 q K
theorem at_num {w : World} {b : Nat} {s : ByteArray} {K : KOut} (hs : TextK s K) (b0 : w.cell? ⟨b, 0, none⟩ = some (.int .i64 10)) (b5 : w.cell? ⟨b, 5, none⟩ = some (.string s)) : TermAt w b K :=
  fun w2 q k c3 => ans_num w2 q b s K hs c3 (kept_cell k b0) (kept_cell k b5)
theorem at_un {w : World} {b u t : Nat} {op : Int} {s : ByteArray} {K : KOut} (hs : TextK s K) (b0 : w.cell? ⟨b, 0, none⟩ = some (.int .i64 11)) (b6 : w.cell? ⟨b, 6, none⟩ = some (.pointer (some ⟨u, 0, none⟩)))
    (u0 : w.cell? ⟨u, 0, none⟩ = some (.int .i64 op)) (u1 : w.cell? ⟨u, 1, none⟩ = some (.pointer (some ⟨t, 0, none⟩))) (t0 : w.cell? ⟨t, 0, none⟩ = some (.int .i64 10)) (t5 : w.cell? ⟨t, 5, none⟩ = some (.string s)) : TermAt w b (if op = 4 then K.neg else K) :=
  fun w2 q k c3 => ans_un w2 q b u t op s K hs c3 (kept_cell k b0) (kept_cell k b6) (kept_cell k u0) (kept_cell k u1) (kept_cell k t0) (kept_cell k t5)
theorem at_un_other {w : World} {b u t : Nat} {op ty : Int} (h : ty ≠ 10) (b0 : w.cell? ⟨b, 0, none⟩ = some (.int .i64 11)) (b6 : w.cell? ⟨b, 6, none⟩ = some (.pointer (some ⟨u, 0, none⟩)))
    (u0 : w.cell? ⟨u, 0, none⟩ = some (.int .i64 op)) (u1 : w.cell? ⟨u, 1, none⟩ = some (.pointer (some ⟨t, 0, none⟩))) (t0 : w.cell? ⟨t, 0, none⟩ = some (.int .i64 ty)) : TermAt w b .none :=
  fun w2 q k c3 => ans_un_other w2 q b u t op ty c3 (kept_cell k b0) (kept_cell k b6) (kept_cell k u0) (kept_cell k u1) (kept_cell k t0) h
theorem at_str {w : World} {b g : Nat} {s : ByteArray} {qa : Option Addr} {ql qc : Nat} (b0 : w.cell? ⟨b, 0, none⟩ = some (.int .i64 13)) (b8 : w.cell? ⟨b, 8, none⟩ = some (.pointer (some ⟨g, 0, none⟩)))
    (s0 : w.cell? ⟨g, 0, none⟩ = some (.string s)) (s1 : w.cell? ⟨g, 1, none⟩ = some (.slice qa ql qc)) : TermAt w b (if qa.isNone = true then .str s else .none) :=
  fun w2 q k c3 => ans_str w2 q b g s qa ql qc c3 (kept_cell k b0) (kept_cell k b8) (kept_cell k s0) (kept_cell k s1)
theorem at_other {w : World} {b : Nat} {ty : Int} (h1 : ty ≠ 10) (h2 : ty ≠ 11) (h3 : ty ≠ 13) (b0 : w.cell? ⟨b, 0, none⟩ = some (.int .i64 ty)) : TermAt w b .none :=
  fun w2 q k c3 => ans_other w2 q b ty c3 (kept_cell k b0) h1 h2 h3
/-- What class and want say of the key. -/
def KRel (text : ByteArray) (K : KOut) (cl wa : Int) : Prop := (cl = 0 ∧ K = .none) ∨ (cl = 1 ∧ K = .str text) ∨ (cl = 2 ∧ (K = .other ∨ K = .int 0)) ∨ (cl = 3 ∧ K = .int wa)
theorem text_key {n : Nat} {s : ByteArray} {ex : Bool} (h : TextIs n s ex) : ∃ K, TextK s K ∧ ((ex = true ∧ K = .int n) ∨ (ex = false ∧ (K = .other ∨ K = .int 0))) := by
  rcases h with ⟨rfl, h1, h2⟩ | ⟨rfl, h1, h2⟩ | ⟨rfl, h1⟩
  · exact ⟨.int n, .inl ⟨_, rfl, h1, h2⟩, .inl ⟨rfl, rfl⟩⟩
  · exact ⟨.int 0, .inl ⟨_, rfl, h1, h2⟩, .inr ⟨rfl, .inr rfl⟩⟩
  · exact ⟨.other, .inr ⟨rfl, h1⟩, .inr ⟨rfl, .inl rfl⟩⟩
theorem cell_i (w : World) (cs : Array Value) (t : TypeId) (i k : Nat) (v : Value) (hi : i = w.heap.size) (h : cs[k]? = some v) : (w.alloc (.cells cs t)).cell? ⟨i, k, none⟩ = some v := by
  subst hi
  have hb : (w.alloc (.cells cs t)).heap[w.heap.size]? = some (.cells cs t) := heap_alloc_new w _
  simp only [World.cell?, hb]
  simpa using h
theorem cell_o (w : World) (o : Obj) {a : Addr} {v : Value} (h : w.cell? a = some v) : (w.alloc o).cell? a = some v := kept_cell (kept_alloc w o) h
/-- What the switch leaves. -/
def Sw (text : ByteArray) (w : World) (t c s : Value) (wx : World) : Prop := ∃ b cl wa K, t = .pointer (some ⟨b, 0, none⟩) ∧ c = .int .i64 cl ∧ s = .int .i64 wa ∧ TermAt wx b K ∧ KRel text K cl wa ∧ Kept w wx
set_option maxHeartbeats 4000000 in
theorem zzKeyStart_ok (typ lit n : Nat) (text : ByteArray) (interp neg binary : Bool) (ht : typ < 256) (hl : lit < 256) (hn : n < 65536) (w : World) :
    Calls Tryz.prog 11 #[.int .u8 typ, .int .u8 lit, .string text, .int .u16 n, .bool interp, .bool neg, .bool binary] w fun e w' => ∃ q cl wa K, e = .returned (.tuple #[.pointer (some ⟨q, 0, none⟩), .int .i64 cl, .int .i64 wa]) ∧ AnsAt w' q K ∧ KRel text K cl wa ∧ Kept w w' := by
  go_enter Tryz.func11, Tryz.ntmps11
  go_wp2_with fail
  refine (zzNumText_ok lit n hl hn w).mono ?_
  rintro e w1 ⟨s, ex, rfl, hT, hk⟩
  obtain ⟨K, hK, hX⟩ := text_key hT
  have H := Lib.hid (And.intro hK (And.intro hX hk))
  clear hT hk hK hX
  obtain ⟨T, hT⟩ : ∃ T : Int, T = (typ : Int) % 20 + 1 := ⟨_, rfl⟩
  rw [← hT]
  clear hT
  go_upto_block 0 with fail
  go_cut [20, 21, 22] (fun t c s wx => Sw text w1 t c s wx)
  case first =>
    by_cases h10 : T = 10
    · subst h10
      cases ex
      all_goals
        go_wp2_with fail
        go_meet
        obtain ⟨hK, hX, _⟩ := H.out
        refine ⟨_, _, _, K, rfl, rfl, rfl, at_num hK ?_ ?_, ?_, kept_alloc _ _⟩
        · exact cell_i _ _ _ _ _ _ rfl rfl
        · exact cell_i _ _ _ _ _ _ rfl rfl
      · rcases hX with ⟨h, _⟩ | ⟨_, h⟩
        · cases h
        · exact .inr (.inr (.inl ⟨rfl, h⟩))
      · rcases hX with ⟨_, h⟩ | ⟨h, _⟩
        · exact .inr (.inr (.inr ⟨rfl, h⟩))
        · cases h
    by_cases h11 : T = 11
    · subst h11
      clear h10
      cases interp with
      | true =>
        cases neg with
        | false =>
          go_wp2_with fail
          go_meet
          refine ⟨_, _, _, .none, rfl, rfl, rfl, at_un_other (op := 3) (u := w1.heap.size + 1 + 1 + 1) (t := w1.heap.size + 1 + 1) (ty := 13) (by decide) ?_ ?_ ?_ ?_ ?_, .inl ⟨rfl, rfl⟩, (kept_alloc _ _).trans ((kept_alloc _ _).trans ((kept_alloc _ _).trans ((kept_alloc _ _).trans (kept_alloc _ _))))⟩
          all_goals (first | exact cell_i _ _ _ _ _ _ (by simp) rfl | exact cell_o _ _ (cell_i _ _ _ _ _ _ (by simp) rfl) | exact cell_o _ _ (cell_o _ _ (cell_i _ _ _ _ _ _ (by simp) rfl)) | exact cell_o _ _ (cell_o _ _ (cell_o _ _ (cell_i _ _ _ _ _ _ (by simp) rfl))) | exact cell_o _ _ (cell_o _ _ (cell_o _ _ (cell_o _ _ (cell_i _ _ _ _ _ _ (by simp) rfl)))))
        | true =>
          go_wp2_with fail
          go_meet
          refine ⟨_, _, _, .none, rfl, rfl, rfl, at_un_other (op := 4) (u := w1.heap.size + 1 + 1 + 1) (t := w1.heap.size + 1 + 1) (ty := 13) (by decide) ?_ ?_ ?_ ?_ ?_, .inl ⟨rfl, rfl⟩, (kept_alloc _ _).trans ((kept_alloc _ _).trans ((kept_alloc _ _).trans ((kept_alloc _ _).trans (kept_alloc _ _))))⟩
          all_goals (first | exact cell_i _ _ _ _ _ _ (by simp) rfl | exact cell_o _ _ (cell_i _ _ _ _ _ _ (by simp) rfl) | exact cell_o _ _ (cell_o _ _ (cell_i _ _ _ _ _ _ (by simp) rfl)) | exact cell_o _ _ (cell_o _ _ (cell_o _ _ (cell_i _ _ _ _ _ _ (by simp) rfl))) | exact cell_o _ _ (cell_o _ _ (cell_o _ _ (cell_o _ _ (cell_i _ _ _ _ _ _ (by simp) rfl)))))
      | false =>
        cases neg with
        | false =>
          have hF : ∀ wx, TermAt wx (w1.heap.size + 1 + 1) (if (3 : Int) = 4 then K.neg else K) → TermAt wx (w1.heap.size + 1 + 1) K := fun wx h => h
          have HF := Lib.hid hF
          clear hF
          cases ex
          all_goals
            go_wp2_with fail
            go_meet
            obtain ⟨hK, hX, _⟩ := H.out
            refine ⟨_, _, _, K, rfl, rfl, rfl, HF.out _ (at_un (op := 3) (u := w1.heap.size + 1) (t := w1.heap.size) hK ?_ ?_ ?_ ?_ ?_ ?_), ?_, (kept_alloc _ _).trans ((kept_alloc _ _).trans (kept_alloc _ _))⟩
            iterate 6 (first | exact cell_i _ _ _ _ _ _ (by simp) rfl | exact cell_o _ _ (cell_i _ _ _ _ _ _ (by simp) rfl) | exact cell_o _ _ (cell_o _ _ (cell_i _ _ _ _ _ _ (by simp) rfl)) | exact cell_o _ _ (cell_o _ _ (cell_o _ _ (cell_i _ _ _ _ _ _ (by simp) rfl))) | exact cell_o _ _ (cell_o _ _ (cell_o _ _ (cell_o _ _ (cell_i _ _ _ _ _ _ (by simp) rfl)))))
          · rcases hX with ⟨h, _⟩ | ⟨_, h⟩
            · cases h
            · exact .inr (.inr (.inl ⟨rfl, h⟩))
          · rcases hX with ⟨_, h⟩ | ⟨h, _⟩
            · exact .inr (.inr (.inr ⟨rfl, h⟩))
            · cases h
        | true =>
          cases ex
          all_goals
            go_wp2_with fail
            go_meet
            obtain ⟨hK, hX, _⟩ := H.out
            refine ⟨_, _, _, K.neg, rfl, rfl, rfl, at_un (op := 4) (u := w1.heap.size + 1) (t := w1.heap.size) hK ?_ ?_ ?_ ?_ ?_ ?_, ?_, (kept_alloc _ _).trans ((kept_alloc _ _).trans (kept_alloc _ _))⟩
            iterate 6 (first | exact cell_i _ _ _ _ _ _ (by simp) rfl | exact cell_o _ _ (cell_i _ _ _ _ _ _ (by simp) rfl) | exact cell_o _ _ (cell_o _ _ (cell_i _ _ _ _ _ _ (by simp) rfl)) | exact cell_o _ _ (cell_o _ _ (cell_o _ _ (cell_i _ _ _ _ _ _ (by simp) rfl))) | exact cell_o _ _ (cell_o _ _ (cell_o _ _ (cell_o _ _ (cell_i _ _ _ _ _ _ (by simp) rfl)))))
          · rcases hX with ⟨h, _⟩ | ⟨_, h⟩
            · cases h
            · exact .inr (.inr (.inl ⟨rfl, by rcases h with rfl | rfl <;> simp [KOut.neg]⟩))
          · rcases hX with ⟨_, h⟩ | ⟨h, _⟩
            · exact .inr (.inr (.inr ⟨rfl, by rw [h]; rfl⟩))
            · cases h
    by_cases h13 : T = 13
    · subst h13
      clear h10 h11
      cases interp with
      | false =>
        go_wp2_with fail
        go_meet
        refine ⟨_, _, _, .str text, rfl, rfl, rfl, at_str (s := text) (qa := none) (ql := 0) (qc := 0) (g := w1.heap.size) ?_ ?_ ?_ ?_, .inr (.inl ⟨rfl, rfl⟩), (kept_alloc _ _).trans (kept_alloc _ _)⟩
        all_goals (first | exact cell_i _ _ _ _ _ _ (by simp) rfl | exact cell_o _ _ (cell_i _ _ _ _ _ _ (by simp) rfl) | exact cell_o _ _ (cell_o _ _ (cell_i _ _ _ _ _ _ (by simp) rfl)) | exact cell_o _ _ (cell_o _ _ (cell_o _ _ (cell_i _ _ _ _ _ _ (by simp) rfl))) | exact cell_o _ _ (cell_o _ _ (cell_o _ _ (cell_o _ _ (cell_i _ _ _ _ _ _ (by simp) rfl)))))
      | true =>
        go_wp2_with fail
        go_meet
        refine ⟨_, _, _, .none, rfl, rfl, rfl, at_str (s := text) (qa := some ⟨w1.heap.size + 1, 0, none⟩) (ql := 0) (qc := 0) (g := w1.heap.size) ?_ ?_ ?_ ?_, .inl ⟨rfl, rfl⟩, (kept_alloc _ _).trans ((kept_alloc _ _).trans (kept_alloc _ _))⟩
        all_goals (first | exact cell_i _ _ _ _ _ _ (by simp) rfl | exact cell_o _ _ (cell_i _ _ _ _ _ _ (by simp) rfl) | exact cell_o _ _ (cell_o _ _ (cell_i _ _ _ _ _ _ (by simp) rfl)) | exact cell_o _ _ (cell_o _ _ (cell_o _ _ (cell_i _ _ _ _ _ _ (by simp) rfl))) | exact cell_o _ _ (cell_o _ _ (cell_o _ _ (cell_o _ _ (cell_i _ _ _ _ _ _ (by simp) rfl)))))
    have q1 : (T == 10) = false := by simpa using h10
    have q2 : (T == 11) = false := by simpa using h11
    have q3 : (T == 13) = false := by simpa using h13
    go_wp2_with fail
    go_meet
    refine ⟨_, _, _, .none, rfl, rfl, rfl, at_other h10 h11 h13 ?_, .inl ⟨rfl, rfl⟩, (kept_alloc _ _).trans (kept_alloc _ _)⟩
    all_goals (first | exact cell_i _ _ _ _ _ _ (by simp) rfl | exact cell_o _ _ (cell_i _ _ _ _ _ _ (by simp) rfl) | exact cell_o _ _ (cell_o _ _ (cell_i _ _ _ _ _ _ (by simp) rfl)) | exact cell_o _ _ (cell_o _ _ (cell_o _ _ (cell_i _ _ _ _ _ _ (by simp) rfl))) | exact cell_o _ _ (cell_o _ _ (cell_o _ _ (cell_o _ _ (cell_i _ _ _ _ _ _ (by simp) rfl)))))
  case rest =>
    obtain ⟨b, cl, wa, K2, rfl, rfl, rfl, hA, hR, hk⟩ := hcut
    have HA := Lib.hid (And.intro hA (And.intro hR hk))
    clear hA hR hk
    cases binary with
    | false =>
      go_wp2_with fail
      obtain ⟨hA, hR, hk⟩ := HA.out
      refine bodyPost_ret (v := .tuple #[.pointer (some ⟨wc.heap.size, 0, none⟩), .int .i64 cl, .int .i64 wa]) (by simp [results, Tryz.results11, go_sem]) rfl ⟨_, _, _, K2, rfl, hA _ _ (kept_alloc _ _) ?_, hR, H.out.2.2.trans (hk.trans (kept_alloc _ _))⟩
      exact cell_i _ _ _ _ _ _ rfl rfl
    | true =>
      go_wp2_with fail
      obtain ⟨_, _, hk⟩ := HA.out
      refine bodyPost_ret (v := .tuple #[.pointer (some ⟨wc.heap.size + 1 + 1 + 1, 0, none⟩), .int .i64 0, .int .i64 0]) (by simp [results, Tryz.results11, go_sem]) rfl ⟨_, _, _, .none, rfl, ans_nil _ _ ?_, .inl ⟨rfl, rfl⟩, H.out.2.2.trans (hk.trans ((kept_alloc _ _).trans ((kept_alloc _ _).trans ((kept_alloc _ _).trans (kept_alloc _ _)))))⟩
      exact cell_i _ _ _ _ _ _ (by simp) rfl
end Go.Proofs.YticjhbklcpoonaaGreatDoor
