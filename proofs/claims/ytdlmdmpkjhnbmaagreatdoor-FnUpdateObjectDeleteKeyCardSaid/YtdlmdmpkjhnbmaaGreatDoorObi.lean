/- The object of ints that the laws read. -/
import Derived.Test.YtdlmdmpkjhnbmaaGreatDoorKeys
namespace Go.Proofs.YtdlmdmpkjhnbmaaGreatDoor
open Go.RowKit Go.Gq
open Go.Sort
set_option maxRecDepth 100000
def unI : Value → Value
  | .iface _ v => v
  | v => v
theorem lastI_eq (s : Nat → ByteArray) : ∀ (q r : Nat) (x : ByteArray), lastI s q x = some r → r < q ∧ s r = x
  | 0, r, x, h => by cases h
  | q + 1, r, x, h => by
    simp only [lastI] at h
    split at h
    · rename_i e
      injection h with h
      subst h
      exact ⟨by omega, e.symm⟩
    · have := lastI_eq s q r x h
      exact ⟨by omega, this.2⟩
/-- The entries, read back through the keys. -/
theorem lkp_read (l : List (ByteArray × Value)) (n : Nat) (F : Nat → ByteArray) (h1 : ∀ i, i < n → (lkp (F i) l).isSome = true) (h2 : ∀ x, (lkp x l).isSome = true → ∃ i, i < n ∧ F i = x) (x : ByteArray) :
    lkp x (mapN (fun q => unI ((lkp (F q) l).getD .nilIface)) F n) = (lkp x l).map unI := by
  rw [lkp_mapN]
  cases hx : lkp x l with
  | none =>
    cases hl : lastI F n x with
    | none => rfl
    | some r =>
      obtain ⟨hr, e⟩ := lastI_eq F n r x hl
      have := h1 r hr
      rw [e, hx] at this
      cases this
  | some v =>
    obtain ⟨i, hi, e⟩ := h2 x (by rw [hx]; rfl)
    obtain ⟨r, hr, _, _⟩ := lastI_has F n i hi
    rw [e] at hr
    obtain ⟨_, e2⟩ := lastI_eq F n r x hr
    rw [hr]
    simp [e2, hx]
/-- The answer: a map that has the ints of the entries. -/
def IntsAns (m : Option Nat) (l : List (ByteArray × Value)) (w : World) (e : Ending) (w' : World) : Prop :=
  ∃ r lr, e = .returned (.tuple #[.map r, .bool m.isNone, .bool true]) ∧ ObjIs w' r lr ∧ ND lr ∧ (∀ x, lkp x lr = (lkp x l).map unI) ∧ Kept w w'
set_option maxHeartbeats 2000000 in
theorem zzObjectToInts_obj (hsort : SortOk) (m : Option Nat) (l : List (ByteArray × Value)) (w : World) (hm : ObjIs w m l) (hl : ∀ x v, lkp x l = some v → ∃ z, v = ib z) (hlen : l.length ≤ 1048576) :
    Calls Tryz.prog 35 #[.iface 84 (.map m)] w (IntsAns m l w) := by
  rcases hm with ⟨rfl, rfl⟩ | ⟨b, rfl, hm⟩
  · go_enter Tryz.func35, Tryz.ntmps35
    go_wp2
    refine bodyPost_ret (v := .tuple #[.map none, .bool true, .bool true]) (by simp [results, Tryz.results35, go_sem]) rfl ?_
    exact ⟨none, [], rfl, .inl ⟨rfl, rfl⟩, List.nodup_nil, fun x => rfl, Below.refl _ _⟩
  · have Hm := Lib.hid hm
    have HL := Lib.hid hl
    have hmi := make_intH l.length
    have hnil : ∀ W : World, (binOp .eql 84 (.map (some b)) (.map none)).run Tryz.prog W = .ok (.bool false) W := fun W => eql_map_nil W _ _ _ (some b) Tryz.underlying84
    clear hm hl
    go_enter Tryz.func35, Tryz.ntmps35
    go_wp2_with fail
    refine (keys_obj hsort b l w Hm.out hlen).mono ?_
    rintro e w1 ⟨kb, F, rfl, hr, hF1, hF2, hk⟩
    have HF := Lib.hid (And.intro hF1 hF2)
    have HR := Lib.hid hr
    have HK := Lib.hid hk
    have Hm1 := Lib.hid (mapIs_of_block strKey Hm.out (hk.block _ (mapIs_lt strKey Hm.out)))
    clear hr hk hF1 hF2 hnil
    go_wp2_with fail
    obtain ⟨W, hW⟩ : ∃ W : World, W = w1.alloc (.map #[] 0) := ⟨_, rfl⟩
    have hkW : Kept w1 W := by rw [hW]; exact kept_alloc _ _
    have hmA : W.MapIs strKey w1.heap.size [] := by rw [hW]; exact mapIs_new strKey w1
    rw [← hW]
    have HI := Lib.hid (And.intro hkW hmA)
    have Hkb := Lib.hid (mapIs_lt strKey Hm1.out)
    clear hW hkW hmA hmi
    go_loopw [9, 10, 11] (fun i _ _ wr => ∃ q : Nat, q ≤ l.length ∧ i = .int .i64 q ∧ Hid (Kept w1 wr ∧ wr.MapIs strKey w1.heap.size (mapN (fun q => unI ((lkp (F q) l).getD .nilIface)) F q))) (fun i _ _ _ => l.length - (intOf i).toNat)
    case atStart => exact ⟨0, Nat.zero_le _, rfl, HI.out⟩
    case round =>
      obtain ⟨q, hq, rfl, HQ⟩ := hrel
      by_cases hlt : q < l.length
      · obtain ⟨hk, hA⟩ := HQ.out
        have hc := rd_at (HR.out.kept hk) hlt
        have hmb := mapIs_of_block strKey Hm1.out (hk.block _ (mapIs_lt strKey Hm1.out))
        obtain ⟨x, hx⟩ : ∃ x, x = F q := ⟨_, rfl⟩
        obtain ⟨v, hv⟩ := Option.isSome_iff_exists.1 (HF.out.1 q hlt)
        obtain ⟨zz, rfl⟩ := HL.out _ _ hv
        have hlk := run_lookup_assoc strKey (P := Tryz.prog) Tryz.underlying84 Tryz.underlying9 wr hmb x _ (zeroAny wr) false
        rw [hx, hv, ← hx] at hlk
        obtain ⟨w2, hu1, hA2, ho2⟩ := run_mapUpdate_assoc strKey (P := Tryz.prog) Tryz.underlying27 Tryz.underlying9 wr hA x (.int .i64 zz)
        have hk2 : Kept w1 w2 := Below.trans hk (ho2.below (Nat.le_refl _))
        have hc2 := rd_at (HR.out.kept hk2) hlt
        rw [← hx] at hc hc2
        have HN : Hid (Kept w1 w2 ∧ w2.MapIs strKey w1.heap.size (mapN (fun q => unI ((lkp (F q) l).getD .nilIface)) F (q + 1))) := by
          refine ⟨hk2, ?_⟩
          simp only [mapN, hv, Option.getD_some]
          rw [← hx]; exact hA2
        simp only [strKey, Bool.false_eq_true, if_false, Option.getD_some] at hu1 hlk
        have q4 : (0 : Int) ≤ (q : Int) := by omega
        have q5 : (q : Int) < (l.length : Int) := by omega
        clear hx hv hk hA hmb hA2 ho2 hk2 HQ
        go_wp2
        go_roundw
        case rel => exact ⟨q + 1, by omega, by go_num, HN.out⟩
        case measure => simp [intOf]; omega
      · obtain rfl : q = l.length := by omega
        go_wp2
        refine bodyPost_ret (v := .tuple #[.map (some w1.heap.size), .bool false, .bool true]) (by simp [results, Tryz.results35, go_sem]) rfl ?_
        exact ⟨_, _, rfl, .inr ⟨_, rfl, HQ.out.2⟩, nd_mapN _ _ _, lkp_read l _ F HF.out.1 HF.out.2, HK.out.trans HQ.out.1⟩
end Go.Proofs.YtdlmdmpkjhnbmaaGreatDoor
