/- parseNumber at the four texts that are no small whole numbers. -/
import Derived.Test.YticjhbklcpoonaaGreatDoorSet
import Derived.Test.YticjhbklcpoonaaGreatDoorIxa
namespace Go.Proofs.YticjhbklcpoonaaGreatDoor
open Go.RowKit Go.Gq
set_option maxRecDepth 100000
theorem Gl.kept {w w' : World} (G : Gl w) (k : Kept w w') : Gl w' :=
  ⟨kept_cell k G.opt, kept_cell k G.mb, let ⟨p, h⟩ := G.eof; ⟨p, kept_cell k h⟩, let ⟨p, h⟩ := G.syn; ⟨p, kept_cell k h⟩, let ⟨p, h⟩ := G.rng; ⟨p, kept_cell k h⟩, let ⟨b, o, h1, h2, h3⟩ := G.pow; ⟨b, o, kept_cell k h1, kept_cell k h2, kept_cell k h3⟩⟩
theorem parseInt_err (s : ByteArray) (w : World) (G : Gl w) (hs : s.size ≤ 281474976710656) (h : Lib.parseIntB 64 s.data.toList = Lib.parseIntB 64 [] ∨ Lib.parseIntB 64 s.data.toList = .range) :
    Calls Tryz.prog 103 #[.string s, .int .i64 10, .int .i64 64] w fun e w' => ∃ x N, e = .returned (.tuple #[.int .i64 x, .iface 218 (.pointer (some ⟨N, 0, none⟩))]) ∧ Kept w w' := by
  rcases h with h | h
  · obtain ⟨p, hp⟩ := G.syn
    exact (Go.Proofs.Tryz.strconv_ParseInt_10_at64_syntax s hs h _ w hp (.inr ⟨_, _, rfl⟩)).mono fun e w' ⟨N, h1, _, _, h2⟩ => ⟨_, N, h1, h2⟩
  · obtain ⟨p, hp⟩ := G.rng
    exact (Go.Proofs.Tryz.strconv_ParseInt_10_at64_range s hs h _ w hp (.inr ⟨_, _, rfl⟩)).mono fun e w' ⟨N, h1, _, _, h2⟩ => ⟨_, N, h1, h2⟩
theorem int64_err (s : ByteArray) (w : World) (G : Gl w) (hs : s.size ≤ 281474976710656) (h : Lib.parseIntB 64 s.data.toList = Lib.parseIntB 64 [] ∨ Lib.parseIntB 64 s.data.toList = .range) :
    Calls Tryz.prog 92 #[.string s] w fun e w' => ∃ x N, e = .returned (.tuple #[.int .i64 x, .iface 218 (.pointer (some ⟨N, 0, none⟩))]) ∧ Kept w w' := by
  have H := Lib.hid h
  clear h
  go_enter Tryz.func92, Tryz.ntmps92
  go_wp2_with fail
  refine (parseInt_err s w G hs H.out).mono ?_
  rintro e w1 ⟨x, N, rfl, hk⟩
  have K := Lib.hid hk
  clear hk
  go_wp2
  exact bodyPost_ret (v := .tuple #[.int .i64 x, .iface 218 (.pointer (some ⟨N, 0, none⟩))]) (by simp [results, Tryz.results92, go_sem]) rfl ⟨x, N, rfl, K.out⟩
theorem numString_ok (s : ByteArray) (w : World) : Calls Tryz.prog 94 #[.string s] w fun e w' => e = .returned (.string s) ∧ w' = w := by
  go_enter Tryz.func94, Tryz.ntmps94
  go_wp2
  go_ret
  exact ⟨rfl, rfl⟩
def dotE : ByteArray := ⟨#[46, 101, 69]⟩
theorem small_ascii (s : ByteArray) (h : (s.data.toList.all fun b => decide (b.toNat < 128)) = true) : ∀ i (h : i < s.size), (s[i]'h).toNat < 128 := by
  intro i hi
  have := List.all_eq_true.1 h (s[i]'hi) (by
    rw [Array.mem_toList_iff]
    exact Array.getElem_mem _)
  simpa using this
theorem any_yes (s : ByteArray) (hs : s.size ≤ 4611686018427387904) (h : (s.data.toList.all fun b => decide (b.toNat < 128)) = true) (hm : Meets s dotE s.size) (w : World) :
    Calls Tryz.prog 93 #[.string s, .string dotE] w fun e w' => e = .returned (.bool true) ∧ Kept w w' :=
  zzContainsAny_ok s dotE true hs (by decide) (small_ascii s h) (small_ascii dotE (by decide)) w ⟨fun _ => hm, fun _ => rfl⟩
theorem any_no (s : ByteArray) (hs : s.size ≤ 4611686018427387904) (h : (s.data.toList.all fun b => decide (b.toNat < 128)) = true) (hm : ¬ Meets s dotE s.size) (w : World) :
    Calls Tryz.prog 93 #[.string s, .string dotE] w fun e w' => e = .returned (.bool false) ∧ Kept w w' :=
  zzContainsAny_ok s dotE false hs (by decide) (small_ascii s h) (small_ascii dotE (by decide)) w ⟨fun h => by simp at h, fun h => absurd h hm⟩
/-- A key that is a number and no int. -/
def NkIs (w : World) (v : Value) : Prop := (∃ b, v = .iface 69 (.float .f64 b)) ∨ (∃ Z N, v = .iface 167 (.pointer (some ⟨Z, 0, none⟩)) ∧ Wds w N #[.int .u64 7766279631452241919, .int .u64 5, .int .u64 0, .int .u64 0, .int .u64 0, .int .u64 0] ∧ BigAt w Z false (.slice (some ⟨N, 0, none⟩) 2 6))
theorem parse_15 (w : World) (G : Gl w) : Calls Tryz.prog 83 #[.string t15] w fun e w' => ∃ v, e = .returned v ∧ NkIs w' v ∧ Kept w w' := by
  go_enter Tryz.func83, Tryz.ntmps83
  go_wp2_with fail
  refine (int64_err t15 w G (by decide) (.inl (by decide))).mono ?_
  rintro e w1 ⟨x, N, rfl, k1⟩
  have G1 := G.kept k1
  go_wp2_with fail
  refine (numString_ok t15 w1).mono ?_
  rintro e w2 ⟨rfl, rfl⟩
  go_wp2_with fail
  refine (any_yes t15 (by decide) (by decide) ⟨1, by decide, by decide, 0, by decide, by decide⟩ w2).mono ?_
  rintro e w3 ⟨rfl, k3⟩
  have G3 := G1.kept k3
  go_wp2_with fail
  refine (f64_15 w3 G3).mono ?_
  rintro e w4 ⟨⟨b, rfl⟩, rfl⟩
  have K := Lib.hid (k1.trans k3)
  clear k1 k3 G G1 G3
  go_wp2
  go_ret
  exact ⟨_, rfl, .inl ⟨b, rfl⟩, K.out⟩
theorem parse_1e3 (w : World) (G : Gl w) : Calls Tryz.prog 83 #[.string t1e3] w fun e w' => ∃ v, e = .returned v ∧ NkIs w' v ∧ Kept w w' := by
  go_enter Tryz.func83, Tryz.ntmps83
  go_wp2_with fail
  refine (int64_err t1e3 w G (by decide) (.inl (by decide))).mono ?_
  rintro e w1 ⟨x, N, rfl, k1⟩
  have G1 := G.kept k1
  go_wp2_with fail
  refine (numString_ok t1e3 w1).mono ?_
  rintro e w2 ⟨rfl, rfl⟩
  go_wp2_with fail
  refine (any_yes t1e3 (by decide) (by decide) ⟨1, by decide, by decide, 1, by decide, by decide⟩ w2).mono ?_
  rintro e w3 ⟨rfl, k3⟩
  have G3 := G1.kept k3
  go_wp2_with fail
  refine (f64_1e3 w3 G3).mono ?_
  rintro e w4 ⟨⟨b, rfl⟩, rfl⟩
  have K := Lib.hid (k1.trans k3)
  clear k1 k3 G G1 G3
  go_wp2
  go_ret
  exact ⟨_, rfl, .inl ⟨b, rfl⟩, K.out⟩
theorem big_alloc (w : World) : BigAt (w.alloc (.cells #[.bool false, .slice none 0 0] 182)) w.heap.size false (.slice none 0 0) := by
  show (w.heap.push _)[w.heap.size]? = _
  rw [Array.getElem?_push_size]
theorem parse_1e1000 (w : World) (G : Gl w) : Calls Tryz.prog 83 #[.string t1e1000] w fun e w' => ∃ v, e = .returned v ∧ NkIs w' v ∧ Kept w w' := by
  go_enter Tryz.func83, Tryz.ntmps83
  go_wp2_with fail
  refine (int64_err t1e1000 w G (by decide) (.inl (by decide))).mono ?_
  rintro e w1 ⟨x, N, rfl, k1⟩
  have G1 := G.kept k1
  go_wp2_with fail
  refine (numString_ok t1e1000 w1).mono ?_
  rintro e w2 ⟨rfl, rfl⟩
  go_wp2_with fail
  refine (any_yes t1e1000 (by decide) (by decide) ⟨1, by decide, by decide, 1, by decide, by decide⟩ w2).mono ?_
  rintro e w3 ⟨rfl, k3⟩
  have G3 := G1.kept k3
  go_wp2_with fail
  refine (f64_1e1000 w3 G3).mono ?_
  rintro e w4 ⟨⟨b, N2, rfl⟩, k4⟩
  have G4 := G3.kept k4
  go_wp2_with fail
  refine (numString_ok t1e1000 _).mono ?_
  rintro e w5 ⟨rfl, rfl⟩
  obtain ⟨p, hp⟩ := G4.eof
  have hel : 1 < w4.heap.size := cell_lt hp
  go_wp2_with fail
  refine (setString_e _ w4.heap.size p (big_alloc w4) (kept_cell (kept_alloc w4 _) hp) (by omega)).mono ?_
  rintro e w6 ⟨rfl, k6⟩
  go_wp2_with fail
  refine (numString_ok t1e1000 w6).mono ?_
  rintro e w7 ⟨rfl, rfl⟩
  go_wp2_with fail
  refine (Go.Proofs.Tryz.strings_HasPrefix t1e1000 ⟨#[45]⟩ w7).mono ?_
  rintro e w8 ⟨rfl, rfl⟩
  have hpf : Lib.hasPrefix t1e1000.data.toList (ByteArray.mk #[45]).data.toList = false := by decide
  rw [hpf]
  go_wp2_with fail
  refine (inf_run w8).mono ?_
  rintro e w9 ⟨rfl, rfl⟩
  have K := Lib.hid (((k1.trans k3).trans k4).trans ((keep_of_below (fun k => k = w4.heap.size) (kept_alloc w4 _)).trans k6 |>.below (Nat.le_refl _) fun i e => by omega))
  clear k1 k3 k4 k6 G G1 G3 G4
  go_wp2
  go_ret
  exact ⟨_, rfl, .inl ⟨_, rfl⟩, K.out⟩
theorem not_99 : ¬ Meets t99 dotE t99.size := by
  rintro ⟨i, hi, h, j, h', he⟩
  have h1 := t99_at i h
  have h2 : ∀ j (h : j < dotE.size), (dotE[j]'h).toNat ≠ 57 := by decide
  have := h2 j h'
  omega
theorem parse_99 (w : World) (G : Gl w) : Calls Tryz.prog 83 #[.string t99] w fun e w' => ∃ v, e = .returned v ∧ NkIs w' v ∧ Kept w w' := by
  go_enter Tryz.func83, Tryz.ntmps83
  go_wp2_with fail
  refine (int64_err t99 w G (by decide) (.inr (by decide))).mono ?_
  rintro e w1 ⟨x, N, rfl, k1⟩
  have G1 := G.kept k1
  go_wp2_with fail
  refine (numString_ok t99 w1).mono ?_
  rintro e w2 ⟨rfl, rfl⟩
  go_wp2_with fail
  refine (any_no t99 (by decide) (by decide) not_99 w2).mono ?_
  rintro e w4 ⟨rfl, k3⟩
  have G4 := G1.kept k3
  go_wp2_with fail
  refine (numString_ok t99 _).mono ?_
  rintro e w5 ⟨rfl, rfl⟩
  obtain ⟨p, hp⟩ := G4.eof
  have hel : 1 < w4.heap.size := cell_lt hp
  go_wp2_with fail
  refine (setString_99 _ w4.heap.size p (big_alloc w4) (kept_cell (kept_alloc w4 _) hp) (by omega)).mono ?_
  rintro e w6 ⟨M, rfl, hd, hz, k6⟩
  have K := Lib.hid (And.intro hd (And.intro hz ((k1.trans k3).trans ((keep_of_below (fun k => k = w4.heap.size) (kept_alloc w4 _)).trans k6 |>.below (Nat.le_refl _) fun i e => by omega))))
  clear k1 k3 k6 hd hz G G1 G4
  go_wp2
  go_ret
  exact ⟨_, rfl, .inr ⟨_, M, rfl, K.out.1, K.out.2.1⟩, K.out.2.2⟩
end Go.Proofs.YticjhbklcpoonaaGreatDoor
