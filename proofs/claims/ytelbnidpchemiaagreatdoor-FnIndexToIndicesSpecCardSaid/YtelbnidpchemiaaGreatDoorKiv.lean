/- The converter of the law: toIndices, decoded. -/
import Derived.Test.YtelbnidpchemiaaGreatDoorKix
import Derived.Test.YtelbnidpchemiaaGreatDoorSufh
namespace Go.Proofs.YtelbnidpchemiaaGreatDoor
open Go.RowKit Go.Gq
set_option maxRecDepth 100000
abbrev two2 (a : Int) (s : ByteArray) : Value := .tuple #[.int .i64 a, .string s]
theorem kindOf_o (o : Option ByteArray) (w : World) : Calls Tryz.prog 74 #[kv o] w fun e w' => e = .returned (two2 (oN o) (oT o)) ∧ w = w' := by
  cases o with
  | none =>
    simp only [kv]
    go_enter Tryz.func74, Tryz.ntmps74
    go_wp2
    exact bodyPost_ret (v := two2 0 ⟨#[]⟩) (by simp [results, Tryz.results74, go_sem]) rfl ⟨rfl, rfl⟩
  | some s =>
    simp only [kv]
    go_enter Tryz.func74, Tryz.ntmps74
    go_wp2
    exact bodyPost_ret (v := two2 1 s) (by simp [results, Tryz.results74, go_sem]) rfl ⟨rfl, rfl⟩
theorem kindOf_map (m : Nat) (w : World) : Calls Tryz.prog 74 #[mv m] w fun e w' => e = .returned (two2 2 ⟨#[]⟩) ∧ w = w' := by
  go_enter Tryz.func74, Tryz.ntmps74
  go_wp2
  exact bodyPost_ret (v := two2 2 ⟨#[]⟩) (by simp [results, Tryz.results74, go_sem]) rfl ⟨rfl, rfl⟩
theorem kindOf_key {B : Nat} {w0 : World} {k : Ky} {y : Value} (h : k.is B w0 y) (w : World) : Calls Tryz.prog 74 #[y] w fun e w' => e = .returned (two2 (kyN k) (kyT k)) ∧ w = w' := by
  cases k with
  | no => simp only [Ky.is] at h; subst h; exact kindOf_o none w
  | str s => simp only [Ky.is] at h; subst h; exact kindOf_o (some s) w
  | slc a b => obtain ⟨m, _, rfl, _⟩ := h; exact kindOf_map m w
theorem zeroAnyK (w : World) : (zeroValue 20).run Tryz.prog w = .ok .nilIface w := by kernel_rfl
theorem decode_str (s : ByteArray) (w : World) : Calls Tryz.prog 75 #[sv s] w fun e w' => e = .returned (kyV (.str s)) ∧ w = w' := by
  have hk := kindOf_o (some s) w
  simp only [kv] at hk
  go_enter Tryz.func75, Tryz.ntmps75
  go_wp2_with fail
  refine hk.mono ?_
  rintro e w' ⟨rfl, rfl⟩
  clear hk
  simp only [oN, oT]
  go_wp2
  exact bodyPost_ret (v := kyV (.str s)) (by simp [results, Tryz.results75, go_sem, kyN, kyT, kyA, kyB, oN, oT]) rfl ⟨rfl, rfl⟩
theorem decode_slc (m : Nat) (a b : Option ByteArray) (w : World) (h : w.MapIs strKey m [(startB, kv a), (endB, kv b)]) : Calls Tryz.prog 75 #[mv m] w fun e w' => e = .returned (kyV (.slc a b)) ∧ w = w' := by
  have hk1 := kindOf_o a w
  have hk2 := kindOf_o b w
  have hl1 := run_lookup_assoc strKey (P := Tryz.prog) Tryz.underlying126 Tryz.underlying9 w h startB _ (zeroAnyK w) false
  have hl2 := run_lookup_assoc strKey (P := Tryz.prog) Tryz.underlying126 Tryz.underlying9 w h endB _ (zeroAnyK w) false
  have hne : startB ≠ endB := by decide
  have hln := run_len_assoc strKey (P := Tryz.prog) Tryz.underlying126 w h 3
  have e1 : lkp startB [(startB, kv a), (endB, kv b)] = some (kv a) := by simp [lkp]
  have e2 : lkp endB [(startB, kv a), (endB, kv b)] = some (kv b) := by simp [lkp, hne.symm]
  rw [e1] at hl1
  rw [e2] at hl2
  simp only [strKey, Bool.false_eq_true, if_false, Option.getD_some, startB, endB] at hl1 hl2
  simp only [List.length_cons, List.length_nil] at hln
  clear e1 e2 hne
  go_enter Tryz.func75, Tryz.ntmps75
  go_wp2_with fail
  refine hk1.mono ?_
  rintro e w' ⟨rfl, rfl⟩
  clear hk1
  go_wp2_with fail
  refine hk2.mono ?_
  rintro e w' ⟨rfl, rfl⟩
  clear hk2
  go_wp2
  exact bodyPost_ret (v := kyV (.slc a b)) (by simp [results, Tryz.results75, go_sem, kyN, kyT, kyA, kyB]) rfl ⟨rfl, rfl⟩
theorem decode_key {B : Nat} {w : World} {k : Ky} {y : Value} (hn : k ≠ .no) (h : k.is B w y) : Calls Tryz.prog 75 #[y] w fun e w' => e = .returned (kyV k) ∧ w = w' := by
  cases k with
  | no => exact absurd rfl hn
  | str s => simp only [Ky.is] at h; subst h; exact decode_str s w
  | slc a b => obtain ⟨m, _, rfl, hm⟩ := h; exact decode_slc m a b w hm
/-- What the converter answers. -/
def KZAns (n : Nat) (p : Nat → ByteArray) (k : Ky) (w : World) (e : Ending) (w' : World) : Prop :=
  Kept w w' ∧ ((k = .no ∧ e = .returned (.tuple #[.bool true, .slice none 0 0, .slice none 0 0, .int .i64 0, .string ⟨#[]⟩, .int .i64 0, .string ⟨#[]⟩, .int .i64 0, .string ⟨#[]⟩])) ∨ ∃ (b1 b2 : Nat), k ≠ .no ∧ e = .returned (.tuple #[.bool false, .slice (some ⟨b1, 0, none⟩) (n + 1) (n + 1), .slice (some ⟨b2, 0, none⟩) (n + 1) (n + 1), .int .i64 (kyN k), .string (kyT k), .int .i64 (oN (kyA k)), .string (oT (kyA k)), .int .i64 (oN (kyB k)), .string (oT (kyB k))]) ∧
    Rd w' (some ⟨b1, 0, none⟩) (n + 1) (fun i => .int .i64 (if i < n then 1 else kyN k)) ∧ Rd w' (some ⟨b2, 0, none⟩) (n + 1) (fun i => .string (if i < n then p i else kyT k)))
section
attribute [local go_sem] Lib.run_eql_slice_nil
theorem tixInt : (Tryz.prog.info? 3).map (fun i => (i.zero, i.size, i.bytes)) = some (some (.int .i64 0), 1, 8) := by kernel_rfl
set_option maxHeartbeats 4000000 in
theorem ZZIndexToIndices_any (i : Nat) (ky : Ky) (a0 : Option Addr) (n c0 : Nat) (p : Nat → ByteArray) (w : World) (hq : IdkIs w.heap.size w i ky) (h0 : Rd w a0 n (fun i => .string (p i))) (hn : n ≤ 1048576) :
    Calls Tryz.prog 44 #[bq i, .slice a0 n c0] w (KZAns n p ky w) := by
  have H0 := Lib.hid h0
  have HT := Lib.hid hq
  have hmk := make_gen 62 20 Tryz.underlying62 tixAny rfl (by omega) n n (Nat.le_refl _) (by omega)
  clear h0 hq
  go_enter Tryz.func44, Tryz.ntmps44
  go_wp2
  obtain ⟨W, HW⟩ : ∃ W : World, W = w.alloc (.cells (madeCells #[.nilIface] n) 20) := ⟨_, rfl⟩
  have HI : Hid (W.rowIs w.heap.size 20 n (fun _ => .nilIface) ∧ Kept w W) := by
    rw [HW]
    exact ⟨World.rowIs_made w _ n 20, kept_alloc _ _⟩
  rw [← HW]
  clear HW hmk
  go_loopw [14, 32] (fun _ i wr => ∃ k : Nat, k ≤ n ∧ i = .int .i64 k ∧ Hid (wr.rowIs w.heap.size 20 n (fun j => if j < k then sv (p j) else .nilIface) ∧ Kept w wr)) (fun _ i _ => n - (intOf i).toNat)
  case atStart => exact ⟨0, Nat.zero_le _, rfl, by simpa using HI.out.1, HI.out.2⟩
  case round =>
  obtain ⟨k, hk, rfl, HR⟩ := hrel
  obtain ⟨hrow, hkp⟩ := HR.out
  by_cases hlt : k < n
  · obtain ⟨xb, xo, e1, hc0⟩ := (H0.out.kept hkp).at hlt
    subst e1
    obtain ⟨x, hx⟩ : ∃ x, x = p k := ⟨_, rfl⟩
    rw [← hx] at hc0
    have q4 : (0 : Int) ≤ (k : Int) := by omega
    have q5 : (k : Int) < (n : Int) := by omega
    have hd := hrow.cell hlt
    have hz := hrow.frozen k
    have hset := (hrow.set k (sv x)).congr (g := fun j => if j < k + 1 then sv (p j) else .nilIface) (fun j hj => by
      by_cases e : j = k
      · subst e; simp [hx]
      · simp only [if_neg e]; by_cases e2 : j < k
        · rw [if_pos e2, if_pos (by omega)]
        · rw [if_neg e2, if_neg (by omega)])
    have hkp2 := hkp.setCell (p := ⟨w.heap.size, k, none⟩) (Nat.le_refl _) (sv x)
    have HN := Lib.hid (And.intro hset hkp2)
    simp only [Nat.lt_irrefl, if_false] at hd
    clear hset hkp2 hrow hkp hx HR HI
    go_wp2
    go_roundw
    case rel => exact ⟨k + 1, by omega, by go_num, HN.out⟩
    case measure => simp [intOf]; omega
  obtain rfl : k = n := by omega
  have ho := own_of_row (B := w.heap.size) (hrow.congr (g := fun j => sv (p j)) fun i hi => by simp [hi]) (Nat.le_refl _) (by simp only [maxLen]; omega)
  have hlen : ((List.range k).map (fun j => sv (p j))).length = k := by simp
  have hcall := index_key w.heap.size i ky _ ((List.range k).map (fun j => sv (p j))) wr (HT.out.below hkp) (by rw [hlen]; exact ho) (by rw [hlen]; omega) hkp.size
  have Hcall := Lib.hid hcall
  have HB := Lib.hid hkp
  have hkk : (k : Int) ≤ (k : Int) := Int.le_refl _
  have HL := Lib.hid hlen
  clear hlt hk hkp ho hlen hcall HR HI hrow
  go_wp2_with fail
  refine Hcall.out.mono ?_
  rintro e w3 ⟨hb3, hr⟩
  have HB3 : Hid (Kept w w3) := Below.trans HB.out hb3
  clear hb3
  rcases hr with ⟨h3, rfl⟩ | ⟨y, g3, cap3, h3, hy, rfl, h5⟩
  · have H3 := Lib.hid h3
    clear h3
    go_wp2
    refine bodyPost_ret (v := .tuple #[.bool true, .slice none 0 0, .slice none 0 0, .int .i64 0, .string ⟨#[]⟩, .int .i64 0, .string ⟨#[]⟩, .int .i64 0, .string ⟨#[]⟩]) (by simp [results, Tryz.results44, go_sem]) rfl ?_
    exact ⟨HB3.out, .inl ⟨H3.out, rfl⟩⟩
  rw [HL.out] at h5 ⊢
  obtain ⟨M, hM⟩ : ∃ M, M = k + 1 := ⟨_, rfl⟩
  have hM1 : 1 ≤ M := by omega
  have hM2 : M ≤ 4194304 := by omega
  rw [← hM] at h5
  rw [← hM]
  have hrd : Rd w3 (some ⟨g3, 0, none⟩) M (fun i => if i < k then sv (p i) else y) := (own_rd h5 rfl _ fun i hi => by
    by_cases e : i < k
    · rw [List.getElem?_append_left (by simpa using e)]; simp [e]
    · obtain rfl : i = k := by omega
      rw [List.getElem?_append_right (by simp)]; simp).2
  have HKO : Hid (∀ j W, j < M → Calls Tryz.prog 74 #[if j < k then sv (p j) else y] W fun e w' => e = .returned (two2 (if j < k then 1 else kyN ky) (if j < k then p j else kyT ky)) ∧ W = w') := fun j W _ => by
    by_cases e : j < k
    · simp only [if_pos e]; exact kindOf_o (some (p j)) W
    · simp only [if_neg e]; exact kindOf_key hy W
  have HY : Hid (ky.is wr.heap.size w3 y) := hy
  have HRD := Lib.hid hrd
  have H3 := Lib.hid (And.intro h3 hM)
  have hmk2 := make_gen 64 3 Tryz.underlying64 tixInt rfl (by omega) M M (Nat.le_refl _) (by omega)
  have hmk3 := make_gen 29 9 Tryz.underlying29 tixStr rfl (by omega) M M (Nat.le_refl _) (by omega)
  clear h3 h5 hrd hM hy
  go_wp2
  obtain ⟨W, HW⟩ : ∃ W : World, W = (w3.alloc (.cells (madeCells #[.int .i64 0] M) 3)).alloc (.cells (madeCells #[.string ⟨#[]⟩] M) 9) := ⟨_, rfl⟩
  have HI : Hid (W.rowIs w3.heap.size 3 M (fun _ => .int .i64 0) ∧ W.rowIs (w3.heap.size + 1) 9 M (fun _ => .string ⟨#[]⟩) ∧ Kept w3 W) := by
    have h2 := World.rowIs_made (w3.alloc (.cells (madeCells #[.int .i64 0] M) 3)) (.string ⟨#[]⟩) M 9
    rw [size1, ← HW] at h2
    rw [HW] at h2 ⊢
    exact ⟨rowIs_kept (World.rowIs_made w3 _ M 3) (kept_alloc _ _), h2, (kept_alloc _ _).trans (kept_alloc _ _)⟩
  rw [← HW]
  clear HW hmk2 hmk3
  go_loopw [18, 19, 20, 57] (fun _ _ _ i wr => ∃ j : Nat, j ≤ M ∧ i = .int .i64 j ∧ Hid (wr.rowIs w3.heap.size 3 M (fun t => if t < j then .int .i64 (if t < k then 1 else kyN ky) else .int .i64 0) ∧ wr.rowIs (w3.heap.size + 1) 9 M (fun t => if t < j then .string (if t < k then p t else kyT ky) else .string ⟨#[]⟩) ∧ Kept w3 wr)) (fun _ _ _ i _ => M - (intOf i).toNat)
  case atStart => exact ⟨0, Nat.zero_le _, rfl, by simpa using HI.out.1, by simpa using HI.out.2.1, HI.out.2.2⟩
  case round =>
  obtain ⟨j, hj, rfl, HR⟩ := hrel
  by_cases hlt : j < M
  · obtain ⟨hr1, hr2, hkp⟩ := HR.out
    have hc0 := rd_at0 (HRD.out.kept hkp) hlt
    have hko := HKO.out j wr hlt
    obtain ⟨x, hx⟩ : ∃ x, x = (if j < k then sv (p j) else y) := ⟨_, rfl⟩
    obtain ⟨ka, hka⟩ : ∃ ka, ka = (if j < k then (1 : Int) else kyN ky) := ⟨_, rfl⟩
    obtain ⟨ta, hta⟩ : ∃ ta, ta = (if j < k then p j else kyT ky) := ⟨_, rfl⟩
    rw [← hx] at hc0 hko
    rw [← hka, ← hta] at hko
    have q4 : (0 : Int) ≤ (j : Int) := by omega
    have q5 : (j : Int) < (M : Int) := by omega
    have hd1 := hr1.cell hlt
    have hz1 := hr1.frozen j
    have hr1' := (hr1.set j (.int .i64 ka)).congr (g := fun t => if t < j + 1 then .int .i64 (if t < k then 1 else kyN ky) else .int .i64 0) (fun t ht => by
      by_cases e : t = j
      · subst e; simp [hka]
      · simp only [if_neg e]; by_cases e2 : t < j
        · rw [if_pos e2, if_pos (show t < j + 1 by omega)]
        · rw [if_neg e2, if_neg (show ¬ t < j + 1 by omega)])
    have hr2a := hr2.setOther (a := ⟨w3.heap.size, j, none⟩) (show w3.heap.size + 1 ≠ w3.heap.size by omega) (.int .i64 ka)
    have hd2 := hr2a.cell hlt
    have hz2 := hr2a.frozen j
    have hr2' := (hr2a.set j (.string ta)).congr (g := fun t => if t < j + 1 then .string (if t < k then p t else kyT ky) else .string ⟨#[]⟩) (fun t ht => by
      by_cases e : t = j
      · subst e; simp [hta]
      · simp only [if_neg e]; by_cases e2 : t < j
        · rw [if_pos e2, if_pos (show t < j + 1 by omega)]
        · rw [if_neg e2, if_neg (show ¬ t < j + 1 by omega)])
    have hr1'' := hr1'.setOther (a := ⟨w3.heap.size + 1, j, none⟩) (show w3.heap.size ≠ w3.heap.size + 1 by omega) (.string ta)
    have hkp2 := (hkp.setCell (p := ⟨w3.heap.size, j, none⟩) (Nat.le_refl _) (.int .i64 ka)).setCell (p := ⟨w3.heap.size + 1, j, none⟩) (Nat.le_succ _) (.string ta)
    have HN := Lib.hid (And.intro hr1'' (And.intro hr2' hkp2))
    simp only [Nat.lt_irrefl, if_false] at hd1 hd2
    have HC := Lib.hid hko
    clear hr1' hr2a hr1'' hr2' hkp2 hr1 hr2 hkp hx hka hta HR HI hko
    go_wp2_with fail
    refine HC.out.mono ?_
    rintro e w' ⟨rfl, rfl⟩
    go_wp2
    go_roundw
    case rel => exact ⟨j + 1, by omega, by go_num, HN.out⟩
    case measure => simp [intOf]; omega
  obtain rfl : j = M := by omega
  obtain ⟨hr1, hr2, hkp⟩ := HR.out
  have hjk := H3.out.2
  have hc0 := rd_at0 (HRD.out.kept hkp) (show k < j by omega)
  simp only [Nat.lt_irrefl, if_false] at hc0
  have hdec := decode_key H3.out.1 (Ky.is_keep HY.out fun m _ h2 => hkp.block m h2)
  have q5 : (j : Int) ≤ (j : Int) := Int.le_refl _
  have q6 : (j : Int) - 1 = (k : Int) := by omega
  have q7 : ((j : Int) == 0) = false := by simp; omega
  have q8 : (0 : Int) ≤ (k : Int) := by omega
  have q9 : (k : Int) < (j : Int) := by omega
  have HF := Lib.hid (And.intro hr1 (And.intro hr2 hkp))
  have HD := Lib.hid hdec
  have HJ := Lib.hid hjk
  clear hr1 hr2 hkp HR HI hlt hj hdec hjk
  go_wp2_with fail
  refine HD.out.mono ?_
  rintro e w' ⟨rfl, rfl⟩
  go_wp2
  refine bodyPost_ret (v := .tuple #[.bool false, .slice (some ⟨w3.heap.size, 0, none⟩) j j, .slice (some ⟨w3.heap.size + 1, 0, none⟩) j j, .int .i64 (kyN ky), .string (kyT ky), .int .i64 (oN (kyA ky)), .string (oT (kyA ky)), .int .i64 (oN (kyB ky)), .string (oT (kyB ky))]) (by simp [results, Tryz.results44, go_sem]) rfl ?_
  refine ⟨HB3.out.trans HF.out.2.2, .inr ⟨w3.heap.size, w3.heap.size + 1, H3.out.1, by rw [HJ.out], ?_⟩⟩
  rw [← HJ.out]
  exact ⟨rd_row (HF.out.1.congr fun i hi => by simp [hi]), rd_row (HF.out.2.1.congr fun i hi => by simp [hi])⟩
end
end Go.Proofs.YtelbnidpchemiaaGreatDoor
