/- The contract of updateObject where the path is at its end and the value is not the marker. -/
import Derived.Test.YtdlmdmpkjhnbmaaGreatDoorMake
namespace Go.Proofs.YtdlmdmpkjhnbmaaGreatDoor
open Go.RowKit Go.Gq
set_option maxRecDepth 100000
/-- update at an empty path. -/
theorem update_empty (v n : Value) (a : Option Addr) (c : Nat) (m : Option Nat) (w : World) :
    Calls Tryz.prog 45 #[v, .slice a 0 c, n, .map m] w fun e w' => e = .returned (.tuple #[n, .nilIface]) ∧ w = w' := by
  go_enter Tryz.func45, Tryz.ntmps45
  go_wp2
  go_ret2
  exact ⟨rfl, rfl⟩
/-- An object: nil, or a map that has these entries. -/
def ObjIs (w : World) (m : Option Nat) (l : List (ByteArray × Value)) : Prop := (m = none ∧ l = []) ∨ ∃ b, m = some b ∧ w.MapIs strKey b l
theorem ObjIs.keep {S : Nat → Prop} {w w' : World} {m : Option Nat} {l : List (ByteArray × Value)} (h : ObjIs w m l) (k : Keep S w w') (hs : ∀ b, m = some b → ¬ S b) : ObjIs w' m l := by
  rcases h with ⟨h1, h2⟩ | ⟨b, h1, h2⟩
  · exact .inl ⟨h1, h2⟩
  · exact .inr ⟨b, h1, mapIs_of_block strKey h2 (k.block b (mapIs_lt strKey h2) (hs b h1))⟩
theorem ObjIs.kept {w w' : World} {m : Option Nat} {l : List (ByteArray × Value)} (h : ObjIs w m l) (k : Kept w w') : ObjIs w' m l := h.keep (keep_of_below (fun _ => False) k) (fun _ _ h => h)
theorem zeroAny (w : World) : (zeroValue 20).run Tryz.prog w = .ok .nilIface w := by kernel_rfl
theorem len_nilmap (ty : TypeId) (w : World) : (Builtin.len_ #[84] ty #[.map none]).run Tryz.prog w = .ok (.int .i64 0) w := by
  simp [Builtin.len_, run_underlying Tryz.underlying84, goInt]
theorem obj_lookup (w : World) {m : Option Nat} {l : List (ByteArray × Value)} (h : ObjIs w m l) (k : ByteArray) :
    (Instr.lookup 84 (.map m) (.string k) true).run Tryz.prog w = .ok (.tuple #[(lkp k l).getD .nilIface, .bool (lkp k l).isSome]) w := by
  rcases h with ⟨rfl, rfl⟩ | ⟨b, rfl, h⟩
  · exact run_lookup_nilassoc strKey Tryz.underlying84 Tryz.underlying9 w k _ (zeroAny w) true
  · exact run_lookup_assoc strKey Tryz.underlying84 Tryz.underlying9 w h k _ (zeroAny w) true
theorem obj_len (w : World) {m : Option Nat} {l : List (ByteArray × Value)} (h : ObjIs w m l) (ty : TypeId) :
    (Builtin.len_ #[84] ty #[.map m]).run Tryz.prog w = .ok (.int .i64 l.length) w := by
  rcases h with ⟨rfl, rfl⟩ | ⟨b, rfl, h⟩
  · exact len_nilmap ty w
  · exact run_len_assoc strKey Tryz.underlying84 w h ty
theorem copy_obj (d : Nat) (m : Option Nat) (l : List (ByteArray × Value)) (w : World) (hd : w.MapIs strKey d []) (hb : ObjIs w m l) (hne : m ≠ some d) :
    Calls Tryz.prog 48 #[.map (some d), .map m] w fun e w' => e = .returned (.tuple #[]) ∧ Keep (· = d) w w' ∧
      ∃ D, w'.MapIs strKey d D ∧ ∀ x, lkp x D = lkp x l := by
  rcases hb with ⟨rfl, rfl⟩ | ⟨b, rfl, h⟩
  · exact copy_nil d [] w hd
  · refine (copy_any d b l [] w hd h (fun e => hne (by rw [e]))).mono fun e w' ⟨h1, h2, D, h3, h4⟩ => ⟨h1, h2, D, h3, fun x => ?_⟩
    rw [h4 x]
    split
    · rfl
    · rename_i hs
      cases hx : lkp x l with
      | none => rfl
      | some y => rw [hx] at hs; exact absurd rfl hs
set_option maxHeartbeats 1000000 in
theorem updateObject_any (m : Option Nat) (l : List (ByteArray × Value)) (k : ByteArray) (pa : Option Addr) (pc : Nat) (dn : TypeId) (vn : Value) (ma : Option Nat) (w : World)
    (hm : ObjIs w m l) (ha : AllocIs w ma []) (hsep : ∀ b, m = some b → ma ≠ some b) (hlen : l.length ≤ 1073741824)
    (hne : ∀ W, (binOp .eql 20 (.iface dn vn) (.iface 98 (.agg #[]))).run Tryz.prog W = .ok (.bool false) W) :
    Calls Tryz.prog 34 #[.map m, .string k, .slice pa 0 pc, .iface dn vn, .map ma] w fun e w' => ∃ b D, e = .returned (.tuple #[.iface 84 (.map (some b)), .nilIface]) ∧
      w.heap.size ≤ b ∧ w'.MapIs strKey b D ∧ (∀ x, lkp x D = if x = k then some (.iface dn vn) else lkp x l) ∧ Keep (fun i => ma = some i) w w' ∧ AllocIs w' ma (allocBehind ma (.iface 84 (.map (some b)))) := by
  have hlk := obj_lookup w hm k
  have hmlt : ∀ b, m = some b → b < w.heap.size := fun b e => by
    rcases hm with ⟨h, _⟩ | ⟨b', h, h'⟩
    · rw [h] at e; cases e
    · rw [h] at e; cases e; exact mapIs_lt strKey h'
  have Hm := Lib.hid hm
  have Hsep := Lib.hid hsep
  have Hmlt := Lib.hid hmlt
  clear hm hsep hmlt
  cases hl : lkp k l
  all_goals
    rw [hl] at hlk
    clear hl
    go_enter Tryz.func34, Tryz.ntmps34
    go_wp2_with fail
    refine (update_empty _ _ _ _ _ _).mono ?_
    rintro e w' ⟨rfl, rfl⟩
    go_wp2_with fail
    refine (allocated_none ma _ _ ha).mono ?_
    rintro e w1 ⟨rfl, hk1⟩
    have hm1 := Hm.out.kept hk1
    have ha1 := ha.kept hk1
    have hln := obj_len w1 hm1
    clear hlk
    go_wp2_with fail
    refine (makeObject_any ma _ w1 ha1).mono ?_
    rintro e w2 ⟨b2, rfl, hb2, hm2, hkp2, ha2⟩
    have hm2' : ObjIs w2 m l := hm1.keep hkp2 (fun b e e2 => Hsep.out b e e2)
    have hne2 : m ≠ some b2 := fun e => by have := Hmlt.out b2 e; have := hk1.size; omega
    clear hln
    go_wp2_with fail
    refine (copy_obj b2 m l w2 hm2 hm2' hne2).mono ?_
    rintro e w3 ⟨rfl, hkp3, D, hD, hlD⟩
    obtain ⟨w4, hup, hm4, ho4⟩ := run_mapUpdate_assoc strKey Tryz.underlying84 Tryz.underlying9 w3 hD k (.iface dn vn)
    have hab : ma ≠ some b2 := fun e => by
      rcases ha1 with ⟨h, _⟩ | ⟨b, h, h'⟩
      · rw [h] at e; cases e
      · rw [h] at e; cases e; have := mapIs_lt intKey h'; omega
    have HD := Lib.hid hlD
    clear hlD
    simp only [strKey] at hup
    go_wp2_with fail
    go_ret2
    have hk04 : Keep (fun i => ma = some i ∨ i = b2) w w4 := (((keep_of_below _ hk1).trans (hkp2.mono fun i _ h => .inl h)).trans (hkp3.mono fun i _ h => .inr h)).trans (keep_of_only ho4 (.inr rfl))
    refine ⟨b2, _, rfl, Nat.le_trans hk1.size hb2, hm4, fun x => ?_, ?_, ?_⟩
    · rw [lkp_aput, HD.out]
    · exact hk04.mono fun i hi h => h.resolve_right (fun e => by have := hk1.size; omega)
    · exact (ha2.keep hkp3 (fun b e e2 => hab (by rw [e, e2]))).keep (keep_of_only (S := (· = b2)) ho4 rfl) (fun b e e2 => hab (by rw [e, e2]))
end Go.Proofs.YtdlmdmpkjhnbmaaGreatDoor
