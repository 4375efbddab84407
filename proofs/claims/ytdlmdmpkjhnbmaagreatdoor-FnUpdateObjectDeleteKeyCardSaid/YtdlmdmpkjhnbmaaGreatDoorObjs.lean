/- The laws' own objects: each key to the value of its last position. -/
import Derived.Test.YtdlmdmpkjhnbmaaGreatDoorClo
import Derived.Test.YtdlmdmpkjhnbmaaGreatDoorDelo
import Derived.StillTailTactics
namespace Go.Proofs.YtdlmdmpkjhnbmaaGreatDoor
open Go.RowKit Go.Gq
set_option maxRecDepth 100000
theorem beq_yes (s : ByteArray) : (s.toList == s.toList) = true := by simp
theorem beq_no {s t : ByteArray} (h : s ≠ t) : (s.toList == t.toList) = false := by
  rw [beq_eq_false_iff_ne]
  intro e
  rw [ByteArray.toList_eq, ByteArray.toList_eq] at e
  apply h
  cases s; cases t
  simp at e
  rw [e]
theorem len_set {l L0 : List (ByteArray × Value)} {key : ByteArray} {v : Value} (h : ND l) (h0 : ND L0) (hl : ∀ x, lkp x l = if x = key then some v else lkp x L0) : l.length = if (lkp key L0).isSome then L0.length else L0.length + 1 := by
  rw [← length_aput key v L0]
  refine same_length h (nd_aput _ _ _ h0) fun x => ?_
  rw [hl x, lkp_aput]
/-- The last position, among the first q, of a key. -/
def lastI (s : Nat → ByteArray) : Nat → ByteArray → Option Nat
  | 0, _ => none
  | q + 1, x => if x = s q then some q else lastI s q x
/-- Each key to f of its last position. -/
def mapN (f : Nat → Value) (s : Nat → ByteArray) : Nat → List (ByteArray × Value)
  | 0 => []
  | q + 1 => aput (s q) (f q) (mapN f s q)
abbrev fI : Nat → Value := fun q => .int .i64 q
theorem lkp_mapN (f : Nat → Value) (s : Nat → ByteArray) : ∀ (q : Nat) (x : ByteArray), lkp x (mapN f s q) = (lastI s q x).map f
  | 0, x => rfl
  | q + 1, x => by
    simp only [mapN, lkp_aput, lastI]
    split
    · rfl
    · exact lkp_mapN f s q x
theorem nd_mapN (f : Nat → Value) (s : Nat → ByteArray) : ∀ q, ND (mapN f s q)
  | 0 => List.nodup_nil
  | q + 1 => nd_aput _ _ _ (nd_mapN f s q)
theorem len_mapN (f : Nat → Value) (s : Nat → ByteArray) : ∀ q, (mapN f s q).length ≤ q
  | 0 => Nat.le_refl _
  | q + 1 => by
    have := len_mapN f s q
    simp only [mapN, length_aput]; split <;> omega
theorem lastI_has (s : Nat → ByteArray) : ∀ (q p : Nat), p < q → ∃ r, lastI s q (s p) = some r ∧ p ≤ r ∧ r < q
  | 0, p, h => absurd h (Nat.not_lt_zero _)
  | q + 1, p, h => by
    simp only [lastI]
    by_cases e : s p = s q
    · rw [if_pos e]; exact ⟨q, rfl, by omega, by omega⟩
    · rw [if_neg e]
      have hp : p < q := by
        rcases Nat.lt_or_ge p q with h1 | h1
        · exact h1
        · have : p = q := by omega
          subst this; exact absurd rfl e
      obtain ⟨r, h1, h2, h3⟩ := lastI_has s q p hp
      exact ⟨r, h1, h2, by omega⟩
theorem zeroInt (w : World) : (zeroValue 3).run Tryz.prog w = .ok (.int .i64 0) w := by kernel_rfl
theorem make_objH (n : Int) (W : World) : (Instr.makeMap 84 (some (.int .i64 n))).run Tryz.prog W = .ok (.map (some W.heap.size)) (W.alloc (.map #[] 0)) := by
  simp [Instr.makeMap, run_underlying Tryz.underlying84, asInt, asIntOf]
theorem make_intH (n : Int) (W : World) : (Instr.makeMap 27 (some (.int .i64 n))).run Tryz.prog W = .ok (.map (some W.heap.size)) (W.alloc (.map #[] 0)) := by
  simp [Instr.makeMap, run_underlying Tryz.underlying27, asInt, asIntOf]
theorem int_lookup (w : World) {m : Option Nat} {l : List (ByteArray × Value)} (h : ObjIs w m l) (k : ByteArray) :
    (Instr.lookup 27 (.map m) (.string k) true).run Tryz.prog w = .ok (.tuple #[(lkp k l).getD (.int .i64 0), .bool (lkp k l).isSome]) w := by
  rcases h with ⟨rfl, rfl⟩ | ⟨b, rfl, h⟩
  · exact run_lookup_nilassoc strKey Tryz.underlying27 Tryz.underlying9 w k _ (zeroInt w) true
  · exact run_lookup_assoc strKey Tryz.underlying27 Tryz.underlying9 w h k _ (zeroInt w) true
theorem int_lookup1 (w : World) {m : Option Nat} {l : List (ByteArray × Value)} (h : ObjIs w m l) (k : ByteArray) :
    (Instr.lookup 27 (.map m) (.string k) false).run Tryz.prog w = .ok ((lkp k l).getD (.int .i64 0)) w := by
  rcases h with ⟨rfl, rfl⟩ | ⟨b, rfl, h⟩
  · exact run_lookup_nilassoc strKey Tryz.underlying27 Tryz.underlying9 w k _ (zeroInt w) false
  · exact run_lookup_assoc strKey Tryz.underlying27 Tryz.underlying9 w h k _ (zeroInt w) false
theorem int_len (w : World) {m : Option Nat} {l : List (ByteArray × Value)} (h : ObjIs w m l) (ty : TypeId) :
    (Builtin.len_ #[27] ty #[.map m]).run Tryz.prog w = .ok (.int .i64 l.length) w := by
  rcases h with ⟨rfl, rfl⟩ | ⟨b, rfl, h⟩
  · simp [Builtin.len_, run_underlying Tryz.underlying27, goInt]
  · exact run_len_assoc strKey Tryz.underlying27 w h ty
abbrev fV (z : Nat → Int) : Nat → Value := fun q => ib (z q)
section
attribute [local go_sem] Lib.run_eql_slice_nil
set_option maxHeartbeats 1000000 in
/-- The object of these pairs; nil where the keys are nil. -/
theorem zzPairs_rd (a0 : Option Addr) (n c0 : Nat) (s : Nat → ByteArray) (a1 : Option Addr) (c1 : Nat) (z : Nat → Int) (w : World) (hn : n ≤ 1048576) (h0 : Rd w a0 n (fun i => .string (s i))) (h1 : Rd w a1 n (fun i => .int .i64 (z i))) :
    Calls Tryz.prog 33 #[.slice a0 n c0, .slice a1 n c1] w fun e w' => ∃ m, e = .returned (.map m) ∧ m.isNone = a0.isNone ∧ (∀ b, m = some b → w.heap.size ≤ b) ∧ ObjIs w' m (mapN (fV z) s n) ∧ Kept w w' := by
  cases a0 with
  | none =>
    obtain rfl := rd_none h0
    go_enter Tryz.func33, Tryz.ntmps33
    go_wp2
    go_ret
    exact ⟨none, rfl, rfl, (fun b e => by cases e), .inl ⟨rfl, rfl⟩, Below.refl _ _⟩
  | some x =>
    have hmo := make_objH n
    have H0 := Lib.hid h0
    have H1 := Lib.hid h1
    clear h0 h1
    go_enter Tryz.func33, Tryz.ntmps33
    go_wp2
    obtain ⟨W, HW⟩ : ∃ W : World, W = w.alloc (.map #[] 0) := ⟨_, rfl⟩
    have hk : Kept w W := by rw [HW]; exact kept_alloc _ _
    have hm : W.MapIs strKey w.heap.size [] := by rw [HW]; exact mapIs_new strKey w
    rw [← HW]
    have HI := Lib.hid (And.intro hk hm)
    clear HW hmo hk hm
    go_loopw [6] (fun i wr => ∃ q : Nat, q ≤ n ∧ i = .int .i64 q ∧ Hid (Kept w wr ∧ wr.MapIs strKey w.heap.size (mapN (fV z) s q))) (fun i _ => n - (intOf i).toNat)
    case atStart => exact ⟨0, Nat.zero_le _, rfl, HI.out⟩
    case round =>
      obtain ⟨q, hq, rfl, HR⟩ := hrel
      by_cases hlt : q < n
      · obtain ⟨hk, hm⟩ := HR.out
        obtain ⟨xb, xo, e1, hc⟩ := (H0.out.kept hk).at hlt
        injection e1 with e1
        subst e1
        obtain ⟨yb, yo, rfl, hc2⟩ := (H1.out.kept hk).at hlt
        obtain ⟨x, hx⟩ : ∃ x, x = s q := ⟨_, rfl⟩
        have hmd : wr.drew.MapIs strKey w.heap.size (mapN (fV z) s q) := mapIs_of_block strKey hm rfl
        obtain ⟨w2, hu1, hA2, ho2⟩ := run_mapUpdate_assoc strKey (P := Tryz.prog) Tryz.underlying84 Tryz.underlying9 wr.drew hmd x (ib (z q))
        rw [← hx] at hc
        have q4 : (0 : Int) ≤ (q : Int) := by omega
        have q5 : (q : Int) < (n : Int) := by omega
        have HN : Hid (Kept w w2 ∧ w2.MapIs strKey w.heap.size (mapN (fV z) s (q + 1))) := by
          refine ⟨Below.trans (Below.drew hk) (ho2.below (Nat.le_refl _)), ?_⟩
          simp only [mapN, ← hx]; exact hA2
        simp only [strKey] at hu1
        clear hx hk hm hmd hA2 ho2 HR
        go_wp2_with fail
        go_still_tail 10, (by kernel_rfl)
        go_wp2_with fail
        go_roundw
        case rel => exact ⟨q + 1, by omega, by go_num, HN.out⟩
        case measure => simp [intOf]; omega
      · obtain rfl : q = n := by omega
        go_wp2
        go_ret
        exact ⟨_, rfl, rfl, (fun b e => by injection e with e; omega), .inr ⟨_, rfl, HR.out.2⟩, HR.out.1⟩
end
end Go.Proofs.YtdlmdmpkjhnbmaaGreatDoor
