/- What an answer is, and what its view is; setpath's answer in every case. -/
import Derived.Test.YtdhgaogjdjhokaaGreatDoorViewb
import Derived.Test.YtdhgaogjdjhokaaGreatDoorViewc
namespace Go.Proofs.YtdhgaogjdjhokaaGreatDoor
open Go.RowKit Go.Gq
set_option maxRecDepth 100000
/-- What a view shows. -/
inductive VS where
  | kind (k : Int)
  | int (z : Int)
  | arr (n : Nat) (g : Nat → Option Int)
  | obj (l : List (ByteArray × Value))
/-- A view, as a value. -/
def vagg (k : Int) (a1 : Option Addr) (l1 c1 : Nat) (a2 : Option Addr) (l2 c2 : Nat) (m : Int) (a3 : Option Addr) (l3 c3 : Nat) (a4 : Option Addr) (l4 c4 : Nat) : Value :=
  .agg #[.int .i64 k, .slice a1 l1 c1, .slice a2 l2 c2, .int .i64 m, .slice a3 l3 c3, .slice a4 l4 c4]
/-- The view r, in the world w, shows S. -/
def VS.Is (ss : List ByteArray) (n1 : Nat) (key : ByteArray) (B : Nat) : VS → Value → World → Prop
  | .kind k, r, _ => r = vagg k none 0 0 none 0 0 0 none 0 0 none 0 0
  | .int z, r, w => ∃ ai, B ≤ ai.block ∧ r = vagg 3 (some ai) 1 1 none 0 0 0 none 0 0 none 0 0 ∧ Rd w (some ai) 1 (fun _ => .int .i64 z)
  | .arr n g, r, w => ∃ ai an, (B ≤ ai.block ∧ B ≤ an.block) ∧ r = vagg 1 (some ai) n n (some an) n n 0 none 0 0 none 0 0 ∧ Rd w (some ai) n (fun i => .int .i64 ((g i).getD 0)) ∧ Rd w (some an) n (fun i => .bool (g i).isNone)
  | .obj l, r, w => ∃ ah av, (B ≤ ah.block ∧ B ≤ av.block) ∧ r = vagg 2 none 0 0 none 0 0 l.length (some ah) (n1 + 1) (n1 + 1) (some av) (n1 + 1) (n1 + 1) ∧
      Rd w (some ah) (n1 + 1) (fun i => .bool (lkp (kk ss n1 key i) l).isSome) ∧ Rd w (some av) (n1 + 1) (fun i => .int .i64 (iv (lkp (kk ss n1 key i) l)))
theorem VS.Is.kept {ss : List ByteArray} {n1 : Nat} {key : ByteArray} {B : Nat} {S : VS} {r : Value} {w w' : World} (h : S.Is ss n1 key B r w) (k : Kept w w') : S.Is ss n1 key B r w' := by
  cases S with
  | kind => exact h
  | int => obtain ⟨ai, h0, h1, h2⟩ := h; exact ⟨ai, h0, h1, h2.kept k⟩
  | arr => obtain ⟨ai, an, h0, h1, h2, h3⟩ := h; exact ⟨ai, an, h0, h1, h2.kept k, h3.kept k⟩
  | obj => obtain ⟨ai, an, h0, h1, h2, h3⟩ := h; exact ⟨ai, an, h0, h1, h2.kept k, h3.kept k⟩
theorem six_block {w : World} {b i : Nat} (h : i ≠ b) (v0 v1 v2 v3 v4 v5 : Value) : (six w b v0 v1 v2 v3 v4 v5).heap[i]? = w.heap[i]? :=
  ((((((Below.heap_setCell _ ⟨b, 5, none⟩ v5 i h).trans (Below.heap_setCell _ ⟨b, 4, none⟩ v4 i h)).trans (Below.heap_setCell _ ⟨b, 3, none⟩ v3 i h)).trans (Below.heap_setCell _ ⟨b, 2, none⟩ v2 i h)).trans (Below.heap_setCell _ ⟨b, 1, none⟩ v1 i h)).trans (Below.heap_setCell _ ⟨b, 0, none⟩ v0 i h))
theorem rd_six {w : World} {a : Addr} {n : Nat} {f : Nat → Value} {b : Nat} (h : Rd w (some a) n f) (hb : b < a.block) (v0 v1 v2 v3 v4 v5 : Value) : Rd (six w b v0 v1 v2 v3 v4 v5) (some a) n f := by
  rcases h with h | ⟨c, off, e, h⟩
  · exact .inl h
  · injection e with e
    have hc : c ≠ b := fun e2 => by rw [e, e2] at hb; exact Nat.lt_irrefl _ hb
    exact .inr ⟨c, off, by rw [e], fun i hi => (World.cell?_of_block (w := w) (a := ⟨c, off + i, none⟩) (six_block hc v0 v1 v2 v3 v4 v5)).trans (h i hi)⟩
theorem VS.Is.six {ss : List ByteArray} {n1 : Nat} {key : ByteArray} {B : Nat} {S : VS} {r : Value} {w : World} (h : S.Is ss n1 key B r w) {b : Nat} (hb : b < B) (v0 v1 v2 v3 v4 v5 : Value) : S.Is ss n1 key B r (six w b v0 v1 v2 v3 v4 v5) := by
  cases S with
  | kind k =>
    have h' : r = vagg k none 0 0 none 0 0 0 none 0 0 none 0 0 := h
    show r = vagg k none 0 0 none 0 0 0 none 0 0 none 0 0
    exact h'
  | int => obtain ⟨ai, h0, h1, h2⟩ := h; exact ⟨ai, h0, h1, rd_six h2 (by omega) _ _ _ _ _ _⟩
  | arr => obtain ⟨ai, an, h0, h1, h2, h3⟩ := h; exact ⟨ai, an, h0, h1, rd_six h2 (by omega) _ _ _ _ _ _, rd_six h3 (by omega) _ _ _ _ _ _⟩
  | obj => obtain ⟨ai, an, h0, h1, h2, h3⟩ := h; exact ⟨ai, an, h0, h1, rd_six h2 (by omega) _ _ _ _ _ _, rd_six h3 (by omega) _ _ _ _ _ _⟩
theorem VS.Is.low {ss : List ByteArray} {n1 : Nat} {key : ByteArray} {B B' : Nat} {S : VS} {r : Value} {w : World} (h : S.Is ss n1 key B r w) (hb : B' ≤ B) : S.Is ss n1 key B' r w := by
  cases S with
  | kind => exact h
  | int => obtain ⟨ai, h0, h⟩ := h; exact ⟨ai, by omega, h⟩
  | arr => obtain ⟨ai, an, h0, h⟩ := h; exact ⟨ai, an, by omega, h⟩
  | obj => obtain ⟨ai, an, h0, h⟩ := h; exact ⟨ai, an, by omega, h⟩
theorem VS.Is.shape {ss : List ByteArray} {n1 : Nat} {key : ByteArray} {B : Nat} {S : VS} {r : Value} {w : World} (h : S.Is ss n1 key B r w) :
    ∃ k a1 l1 c1 a2 l2 c2 m a3 l3 c3 a4 l4 c4, r = vagg k a1 l1 c1 a2 l2 c2 m a3 l3 c3 a4 l4 c4 := by
  cases S with
  | kind => exact ⟨_, _, _, _, _, _, _, _, _, _, _, _, _, _, h⟩
  | int => obtain ⟨ai, _, h1, _⟩ := h; exact ⟨_, _, _, _, _, _, _, _, _, _, _, _, _, _, h1⟩
  | arr => obtain ⟨ai, an, _, h1, _⟩ := h; exact ⟨_, _, _, _, _, _, _, _, _, _, _, _, _, _, h1⟩
  | obj => obtain ⟨ai, an, _, h1, _⟩ := h; exact ⟨_, _, _, _, _, _, _, _, _, _, _, _, _, _, h1⟩
/-- The value u, in the world w, is what S shows. -/
def Res : VS → Value → World → Prop
  | .kind k, u, w => (k = 0 ∧ u = .nilIface) ∨ (k = 14 ∧ ∃ a, u = .iface 70 (.pointer a)) ∨
      (∃ b a, u = .iface 61 (.pointer (some ⟨b, 0, none⟩)) ∧ ((k = 10 ∧ w.cell? ⟨b, 4, none⟩ = some (.iface 66 (.pointer a))) ∨ (k = 11 ∧ w.cell? ⟨b, 4, none⟩ = some (.iface 67 (.pointer a))) ∨
        (k = 12 ∧ w.cell? ⟨b, 4, none⟩ = some (.iface 68 (.pointer a))) ∨ (k = 13 ∧ w.cell? ⟨b, 4, none⟩ = some (.iface 69 (.pointer a)))))
  | .int z, u, _ => u = ia z
  | .arr n g, u, w => n ≤ 1048576 ∧ ∃ b c, u = .iface 55 (.slice (some ⟨b, 0, none⟩) n c) ∧ Rd w (some ⟨b, 0, none⟩) n (fun i => oi (g i))
  | .obj l, u, w => (∀ k v, lkp k l = some v → ∃ z, v = ia z) ∧ ∃ b, u = .iface 59 (.map (some b)) ∧ w.MapIs strKey b l
theorem Res.kept {S : VS} {u : Value} {w w' : World} (h : Res S u w) (k : Kept w w') : Res S u w' := by
  cases S with
  | kind c =>
    rcases h with h | h | ⟨b, a, h1, h⟩
    · exact .inl h
    · exact .inr (.inl h)
    · refine .inr (.inr ⟨b, a, h1, ?_⟩)
      rcases h with ⟨h2, h3⟩ | ⟨h2, h3⟩ | ⟨h2, h3⟩ | ⟨h2, h3⟩
      · exact .inl ⟨h2, kept_cell k h3⟩
      · exact .inr (.inl ⟨h2, kept_cell k h3⟩)
      · exact .inr (.inr (.inl ⟨h2, kept_cell k h3⟩))
      · exact .inr (.inr (.inr ⟨h2, kept_cell k h3⟩))
  | int => exact h
  | arr => obtain ⟨hn, b, c, h1, h2⟩ := h; exact ⟨hn, b, c, h1, h2.kept k⟩
  | obj => obtain ⟨hl, b, h1, h2⟩ := h; exact ⟨hl, b, h1, mapIs_of_block strKey h2 (k.block b (mapIs_lt strKey h2))⟩
/-- A value's view. -/
theorem res_view (S : VS) (u : Value) (ss : List ByteArray) (a1 : Option Addr) (n1 c1 : Nat) (key : ByteArray) (w : World) (h : Res S u w) (h1 : Rd w a1 n1 (vs ss)) (hn : n1 ≤ 1048576) :
    Calls Tryz.prog 30 #[u, .slice a1 n1 c1, .string key] w fun e w' => ∃ r, e = .returned r ∧ S.Is ss n1 key w.heap.size r w' ∧ Kept w w' := by
  cases S with
  | kind k =>
    rcases h with ⟨rfl, rfl⟩ | ⟨rfl, a, rfl⟩ | ⟨b, a, rfl, h⟩
    · exact (zzView_nil a1 n1 c1 key w).mono fun e w' ⟨h1, h2⟩ => ⟨_, h1, rfl, h2⟩
    · exact (zzView_refused a a1 n1 c1 key w).mono fun e w' ⟨h1, h2⟩ => ⟨_, h1, rfl, h2⟩
    · rcases h with ⟨rfl, h⟩ | ⟨rfl, h⟩ | ⟨rfl, h⟩ | ⟨rfl, h⟩
      · exact (zzView_wrap_ain b a a1 n1 c1 key w h).mono fun e w' ⟨h1, h2⟩ => ⟨_, h1, rfl, h2⟩
      · exact (zzView_wrap_ail b a a1 n1 c1 key w h).mono fun e w' ⟨h1, h2⟩ => ⟨_, h1, rfl, h2⟩
      · exact (zzView_wrap_eo b a a1 n1 c1 key w h).mono fun e w' ⟨h1, h2⟩ => ⟨_, h1, rfl, h2⟩
      · exact (zzView_wrap_ea b a a1 n1 c1 key w h).mono fun e w' ⟨h1, h2⟩ => ⟨_, h1, rfl, h2⟩
  | int z =>
    cases h
    exact (zzView_int z a1 n1 c1 key w).mono fun e w' ⟨ai, h0, h1, h2, h3⟩ => ⟨_, h1, ⟨ai, h0, rfl, h2⟩, h3⟩
  | arr n g =>
    obtain ⟨hn', b, c, rfl, h2⟩ := h
    exact (zzView_arr _ n c g a1 n1 c1 key w h2 hn').mono fun e w' ⟨ai, an, h0, h1, h2, h3, h4⟩ => ⟨_, h1, ⟨ai, an, h0, rfl, h2, h3⟩, h4⟩
  | obj l =>
    obtain ⟨hl, b, rfl, h2⟩ := h
    exact (zzView_obj b l ss a1 n1 c1 key w h2 hl h1 hn).mono fun e w' ⟨ai, an, h0, h1, h2, h3, h4⟩ => ⟨_, h1, ⟨ai, an, h0, rfl, h2, h3⟩, h4⟩

/-! ### Documents and paths -/
inductive Doc where
  | null
  | arr (n : Nat) (xs : List Int)
  | obj (n : Nat) (ss : List ByteArray) (xs : List Int)
  | int
def DocIs : Doc → Value → World → Prop
  | .null, v, _ => v = .nilIface
  | .arr n xs, v, w => n ≤ 65536 ∧ ∃ b, v = .iface 55 (.slice (some ⟨b, 0, none⟩) n n) ∧ w.rowIs b 20 n (fun i => ia (xs.getD i 0))
  | .obj n ss xs, v, w => n ≤ 65536 ∧ ∃ b, v = .iface 59 (.map (some b)) ∧ w.MapIs strKey b (objL ss xs n)
  | .int, v, _ => v = ia 0
def Doc.show : Doc → VS
  | .null => .kind 0
  | .arr n xs => .arr n (fun i => some (xs.getD i 0))
  | .obj n ss xs => .obj (objL ss xs n)
  | .int => .int 0
theorem objL_ints (ss : List ByteArray) (xs : List Int) : ∀ (n : Nat) (k : ByteArray) (v : Value), lkp k (objL ss xs n) = some v → ∃ z, v = ia z
  | 0, k, v, h => by cases h
  | n + 1, k, v, h => by
    simp only [objL, lkp_aput] at h
    by_cases e : k = ss.getD n ByteArray.empty
    · rw [if_pos e] at h; injection h with h; exact ⟨_, h.symm⟩
    · rw [if_neg e] at h; exact objL_ints ss xs n k v h
theorem objL_nd (ss : List ByteArray) (xs : List Int) : ∀ n, ND (objL ss xs n)
  | 0 => List.nodup_nil
  | n + 1 => nd_aput _ _ _ (objL_nd ss xs n)
theorem objL_len (ss : List ByteArray) (xs : List Int) : ∀ n, (objL ss xs n).length ≤ n
  | 0 => Nat.le_refl _
  | n + 1 => by
    have := objL_len ss xs n
    simp only [objL, length_aput]; split <;> omega
theorem DocIs.res {D : Doc} {v : Value} {w : World} (h : DocIs D v w) : Res D.show v w := by
  cases D with
  | null => exact .inl ⟨rfl, h⟩
  | arr n xs => obtain ⟨hn, b, rfl, h⟩ := h; exact ⟨by omega, b, n, rfl, rd_row h⟩
  | obj n ss xs => obtain ⟨hn, b, rfl, h⟩ := h; exact ⟨objL_ints ss xs n, b, rfl, h⟩
  | int => exact h
theorem DocIs.keep {D : Doc} {v : Value} {w w' : World} {m : Option Nat} {l : List (Int × Value)} (h : DocIs D v w) (k : Keep (fun i => m = some i) w w') (ha : AllocIs w m l) (hs : ∀ b, v = .iface 59 (.map (some b)) → m ≠ some b) : DocIs D v w' := by
  cases D with
  | null => exact h
  | arr n xs => obtain ⟨hn, b, rfl, h⟩ := h; exact ⟨hn, b, rfl, rowIs_keepAlloc h k ha⟩
  | obj n ss xs => obtain ⟨hn, b, rfl, h⟩ := h; exact ⟨hn, b, rfl, mapIs_of_block strKey h (k.block b (mapIs_lt strKey h) (hs b rfl))⟩
  | int => exact h
theorem DocIs.kept {D : Doc} {v : Value} {w w' : World} (h : DocIs D v w) (k : Kept w w') : DocIs D v w' :=
  h.keep (m := none) (l := []) (keep_of_below _ k) (.inl ⟨rfl, rfl⟩) (fun _ _ e => by cases e)
theorem DocIs.shape {D : Doc} {v : Value} {w : World} (h : DocIs D v w) : v = .nilIface ∨ ∃ T x, v = .iface T x := by
  cases D with
  | null => exact .inl h
  | arr n xs => obtain ⟨hn, b, rfl, h⟩ := h; exact .inr ⟨_, _, rfl⟩
  | obj n ss xs => obtain ⟨hn, b, rfl, h⟩ := h; exact .inr ⟨_, _, rfl⟩
  | int => exact .inr ⟨_, _, h⟩
def PathIs (pkind idx : Int) (key : ByteArray) (p : Value) (w : World) : Prop :=
  if pkind = 0 then ∃ a c, p = .iface 55 (.slice a 0 c)
  else if pkind = 1 then ∃ b, p = .iface 55 (.slice (some ⟨b, 0, none⟩) 1 1) ∧ w.cell? ⟨b, 0, none⟩ = some (ia idx)
  else if pkind = 2 then ∃ b, p = .iface 55 (.slice (some ⟨b, 0, none⟩) 1 1) ∧ w.cell? ⟨b, 0, none⟩ = some (.iface 9 (.string key))
  else p = ia idx
theorem PathIs.kept {pkind idx : Int} {key : ByteArray} {p : Value} {w w' : World} (h : PathIs pkind idx key p w) (k : Kept w w') : PathIs pkind idx key p w' := by
  unfold PathIs at h ⊢
  split
  · rename_i c; rw [if_pos c] at h; exact h
  · rename_i c; rw [if_neg c] at h
    split
    · rename_i c; rw [if_pos c] at h; obtain ⟨b, h1, h2⟩ := h; exact ⟨b, h1, kept_cell k h2⟩
    · rename_i c; rw [if_neg c] at h
      split
      · rename_i c; rw [if_pos c] at h; obtain ⟨b, h1, h2⟩ := h; exact ⟨b, h1, kept_cell k h2⟩
      · rename_i c; rw [if_neg c] at h; exact h
/-- jq's case table at an array of L ints. -/
def ArrOK (L : Nat) (xs : List Int) (idx n : Int) (S : VS) : Prop :=
  if idx < 0 then (if idx + L < 0 then S = .kind 10 else S = .arr L (fun t => if t = (idx + L).toNat then some n else some (xs.getD t 0)))
  else if idx < L then S = .arr L (fun t => if t = idx.toNat then some n else some (xs.getD t 0))
  else if 536870912 ≤ idx then S = .kind 11
  else S = .arr (idx.toNat + 1) (fun t => if t = idx.toNat then some n else if t < L then some (xs.getD t 0) else none)
/-- jq's case table. -/
def AnsOK (D : Doc) (pkind idx : Int) (key : ByteArray) (n : Int) (S : VS) : Prop :=
  if pkind = 0 then S = .int n
  else if pkind = 1 then (match D with
    | .null => ArrOK 0 [] idx n S
    | .arr L xs => ArrOK L xs idx n S
    | _ => S = .kind 13)
  else if pkind = 2 then (match D with
    | .null => ∃ l, S = .obj l ∧ ND l ∧ ∀ x, lkp x l = if x = key then some (ia n) else none
    | .obj N ss xs => ∃ l, S = .obj l ∧ ND l ∧ ∀ x, lkp x l = if x = key then some (ia n) else lkp x (objL ss xs N)
    | _ => S = .kind 12)
  else S = .kind 14
end Go.Proofs.YtdhgaogjdjhokaaGreatDoor
