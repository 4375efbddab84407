/- The clones and sizes of the laws; the converter of toIndices. -/
import Derived.Test.YtelbnidpchemiaaGreatDoorStp
namespace Go.Proofs.YtelbnidpchemiaaGreatDoor
open Go.RowKit Go.Gq
set_option maxRecDepth 100000
theorem tixU8 : (Tryz.prog.info? 5).map (fun i => (i.zero, i.size, i.bytes)) = some (some (.int .u8 0), 1, 1) := by kernel_rfl
section
attribute [local go_sem] Lib.run_eql_slice_nil
set_option maxHeartbeats 1000000 in
theorem zzCloneU8s_rd (a : Option Addr) (n c : Nat) (f : Nat → Int) (w : World) (hn : n ≤ 1048576) (h : Rd w a n (fun i => Value.int .u8 (f i))) :
    Calls Tryz.prog 46 #[.slice a n c] w fun e w' => ∃ a' c', e = .returned (.slice a' n c') ∧ Rd w' a' n (fun i => Value.int .u8 (f i)) ∧ Kept w w' := by
  cases a with
  | none =>
    obtain rfl := rd_none h
    go_enter Tryz.func46, Tryz.ntmps46
    go_wp2
    go_ret
    exact ⟨none, 0, rfl, .inl rfl, Below.refl _ _⟩
  | some x =>
    have hmk := make_gen 101 5 Tryz.underlying101 tixU8 rfl (by omega) n n (Nat.le_refl _) (by omega)
    go_enter Tryz.func46, Tryz.ntmps46
    go_wp2
    obtain ⟨W, HW⟩ : ∃ W : World, W = w.alloc (.cells (madeCells #[Value.int .u8 0] n) 5) := ⟨_, rfl⟩
    have hrow : W.rowIs w.heap.size 5 n (fun _ => Value.int .u8 0) := by rw [HW]; exact World.rowIs_made w _ n 5
    have hk : Kept w W := by rw [HW]; exact kept_alloc _ _
    rw [← HW]
    clear HW hmk
    go_loopw [4] (fun i wr => ∃ k : Nat, k ≤ n ∧ i = .int .i64 k ∧ wr.rowIs w.heap.size 5 n (fun j => if j < k then Value.int .u8 (f j) else Value.int .u8 0) ∧ Kept w wr) (fun i _ => n - (intOf i).toNat)
    case atStart => exact ⟨0, Nat.zero_le _, rfl, by simpa using hrow, hk⟩
    case round =>
      obtain ⟨k, hk, rfl, hrow, hkp⟩ := hrel
      by_cases hlt : k < n
      · obtain ⟨b, off, hx, hc⟩ := (h.kept hkp).at hlt
        injection hx with hx
        subst hx
        have hd := hrow.cell hlt
        have hz := hrow.frozen k
        have hset := (hrow.set k (Value.int .u8 (f k))).congr (g := fun j => if j < k + 1 then Value.int .u8 (f j) else Value.int .u8 0) (fun j hj => by
          by_cases e : j = k
          · subst e; simp
          · simp only [if_neg e]; by_cases e2 : j < k
            · rw [if_pos e2, if_pos (by omega)]
            · rw [if_neg e2, if_neg (by omega)])
        have hkp2 := hkp.setCell (p := ⟨w.heap.size, k, none⟩) (Nat.le_refl _) (Value.int .u8 (f k))
        have Hset := Lib.hid hset
        have Hkp := Lib.hid hkp2
        simp only [Nat.lt_irrefl, if_false] at hd
        clear hset hkp2 hrow hkp h
        go_wp2
        go_roundw
        case rel => exact ⟨k + 1, by omega, by go_num, Hset.out, Hkp.out⟩
        case measure => simp [intOf]; omega
      · have : k = n := by omega
        subst this
        go_wp2
        go_ret
        refine ⟨_, _, rfl, rd_row (hrow.congr fun i hi => by simp [hi]), hkp⟩
set_option maxHeartbeats 1000000 in
theorem zzCloneStrs_rd (a : Option Addr) (n c : Nat) (f : Nat → ByteArray) (w : World) (hn : n ≤ 1048576) (h : Rd w a n (fun i => Value.string (f i))) :
    Calls Tryz.prog 35 #[.slice a n c] w fun e w' => ∃ a' c', e = .returned (.slice a' n c') ∧ Rd w' a' n (fun i => Value.string (f i)) ∧ Kept w w' := by
  cases a with
  | none =>
    obtain rfl := rd_none h
    go_enter Tryz.func35, Tryz.ntmps35
    go_wp2
    go_ret
    exact ⟨none, 0, rfl, .inl rfl, Below.refl _ _⟩
  | some x =>
    have hmk := make_gen 29 9 Tryz.underlying29 tixStr rfl (by omega) n n (Nat.le_refl _) (by omega)
    go_enter Tryz.func35, Tryz.ntmps35
    go_wp2
    obtain ⟨W, HW⟩ : ∃ W : World, W = w.alloc (.cells (madeCells #[Value.string ⟨#[]⟩] n) 9) := ⟨_, rfl⟩
    have hrow : W.rowIs w.heap.size 9 n (fun _ => Value.string ⟨#[]⟩) := by rw [HW]; exact World.rowIs_made w _ n 9
    have hk : Kept w W := by rw [HW]; exact kept_alloc _ _
    rw [← HW]
    clear HW hmk
    go_loopw [4] (fun i wr => ∃ k : Nat, k ≤ n ∧ i = .int .i64 k ∧ wr.rowIs w.heap.size 9 n (fun j => if j < k then Value.string (f j) else Value.string ⟨#[]⟩) ∧ Kept w wr) (fun i _ => n - (intOf i).toNat)
    case atStart => exact ⟨0, Nat.zero_le _, rfl, by simpa using hrow, hk⟩
    case round =>
      obtain ⟨k, hk, rfl, hrow, hkp⟩ := hrel
      by_cases hlt : k < n
      · obtain ⟨b, off, hx, hc⟩ := (h.kept hkp).at hlt
        injection hx with hx
        subst hx
        have hd := hrow.cell hlt
        have hz := hrow.frozen k
        have hset := (hrow.set k (Value.string (f k))).congr (g := fun j => if j < k + 1 then Value.string (f j) else Value.string ⟨#[]⟩) (fun j hj => by
          by_cases e : j = k
          · subst e; simp
          · simp only [if_neg e]; by_cases e2 : j < k
            · rw [if_pos e2, if_pos (by omega)]
            · rw [if_neg e2, if_neg (by omega)])
        have hkp2 := hkp.setCell (p := ⟨w.heap.size, k, none⟩) (Nat.le_refl _) (Value.string (f k))
        have Hset := Lib.hid hset
        have Hkp := Lib.hid hkp2
        simp only [Nat.lt_irrefl, if_false] at hd
        clear hset hkp2 hrow hkp h
        go_wp2
        go_roundw
        case rel => exact ⟨k + 1, by omega, by go_num, Hset.out, Hkp.out⟩
        case measure => simp [intOf]; omega
      · have : k = n := by omega
        subst this
        go_wp2
        go_ret
        refine ⟨_, _, rfl, rd_row (hrow.congr fun i hi => by simp [hi]), hkp⟩
set_option maxHeartbeats 1000000 in
theorem zzStrsBytes_any (a0 : Option Addr) (n0 c0 : Nat) (s : Nat → ByteArray) (w : World) (h0 : Rd w a0 n0 (fun i => .string (s i))) (hn : n0 ≤ 9223372036854775807) :
    Calls Tryz.prog 34 #[.slice a0 n0 c0] w (SomeInt w) := by
  have H0 := Lib.hid h0
  clear h0
  go_enter Tryz.func34, Tryz.ntmps34
  go_wp2
  go_loop [3, 4] (fun t i => ∃ (k : Nat) (z : Int), k ≤ n0 ∧ i = .int .i64 k ∧ t = .int .i64 z) (fun _ i => n0 - (intOf i).toNat)
  case atStart => exact ⟨0, _, Nat.zero_le _, rfl, rfl⟩
  case round =>
    obtain ⟨k, z, hk, rfl, rfl⟩ := hrel
    by_cases hlt : k < n0
    · obtain ⟨b, off, e1, hc⟩ := H0.out.at hlt
      subst e1
      obtain ⟨x, hx⟩ : ∃ x, x = s k := ⟨_, rfl⟩
      rw [← hx] at hc
      clear hx
      by_cases q1 : (1048576 : Int) < wrap64 (z + x.size)
      · go_wp2
        go_ret
        exact ⟨_, rfl, rfl⟩
      · go_wp2
        go_round
        case rel => first | exact ⟨k + 1, _, by omega, by go_num, rfl⟩ | ((repeat apply Exists.intro); refine ⟨?_, rfl⟩; exact ⟨k + 1, _, by omega, by go_num, rfl⟩)
        case measure => simp [intOf]; omega
    · go_wp2
      go_ret
      exact ⟨_, rfl, rfl⟩
/-- What the converter answers. -/
def QZAns (n : Nat) (p : Nat → ByteArray) (ks : List (Option ByteArray)) (w : World) (e : Ending) (w' : World) : Prop :=
  Kept w w' ∧ ((allSome ks = none ∧ e = .returned (.tuple #[.bool true, ns, .bool false, .int .i64 0, .bool false])) ∨ ∃ (ss : List ByteArray) (b : Nat), allSome ks = some ss ∧ e = .returned (.tuple #[.bool false, .slice (some ⟨b, 0, none⟩) (n + ss.length) (n + ss.length), .bool true, .int .i64 0, .bool false]) ∧
    Rd w' (some ⟨b, 0, none⟩) (n + ss.length) (fun i => .string (((List.range n).map p ++ ss).getD i ⟨#[]⟩)))
set_option maxHeartbeats 4000000 in
theorem ZZQueryToIndices_any (q : Nat) (ks : List (Option ByteArray)) (a0 : Option Addr) (n c0 : Nat) (p : Nat → ByteArray) (w : World) (hq : QueryIx w.heap.size w q ks) (h0 : Rd w a0 n (fun i => .string (p i))) (hn : n ≤ 1048576) (hk : ks.length ≤ 3145728) (hk1 : 1 ≤ ks.length) :
    Calls Tryz.prog 36 #[bq q, .slice a0 n c0] w (QZAns n p ks w) := by
  have H0 := Lib.hid h0
  have HT := Lib.hid hq
  have HKL := Lib.hid (And.intro hk hk1)
  have hmk := make_gen 62 20 Tryz.underlying62 tixAny rfl (by omega) n n (Nat.le_refl _) (by omega)
  clear h0 hq hk hk1
  go_enter Tryz.func36, Tryz.ntmps36
  go_wp2
  obtain ⟨W, HW⟩ : ∃ W : World, W = w.alloc (.cells (madeCells #[.nilIface] n) 20) := ⟨_, rfl⟩
  have HI : Hid (W.rowIs w.heap.size 20 n (fun _ => .nilIface) ∧ Kept w W) := by
    rw [HW]
    exact ⟨World.rowIs_made w _ n 20, kept_alloc _ _⟩
  rw [← HW]
  clear HW hmk
  go_loopw [10, 11, 22] (fun _ _ i wr => ∃ k : Nat, k ≤ n ∧ i = .int .i64 k ∧ Hid (wr.rowIs w.heap.size 20 n (fun j => if j < k then sv (p j) else .nilIface) ∧ Kept w wr)) (fun _ _ i _ => n - (intOf i).toNat)
  case atStart => exact ⟨0, Nat.zero_le _, rfl, by simpa using HI.out.1, HI.out.2⟩
  case round =>
  obtain ⟨k, hk, rfl, HR⟩ := hrel
  obtain ⟨hrow, hkp⟩ := HR.out
  by_cases hlt : k < n
  · obtain ⟨xb, xo, e1, hc0⟩ := (H0.out.kept hkp).at hlt
    subst e1
    obtain ⟨x, hx⟩ : ∃ x, x = p k := ⟨_, rfl⟩
    rw [← hx] at hc0
    have q4 : (0 : Int) ≤ (k : Int) := by omega
    have q5 : (k : Int) < (n : Int) := by omega
    have hd := hrow.cell hlt
    have hz := hrow.frozen k
    have hset := (hrow.set k (sv x)).congr (g := fun j => if j < k + 1 then sv (p j) else .nilIface) (fun j hj => by
      by_cases e : j = k
      · subst e; simp [hx]
      · simp only [if_neg e]; by_cases e2 : j < k
        · rw [if_pos e2, if_pos (by omega)]
        · rw [if_neg e2, if_neg (by omega)])
    have hkp2 := hkp.setCell (p := ⟨w.heap.size, k, none⟩) (Nat.le_refl _) (sv x)
    have HN := Lib.hid (And.intro hset hkp2)
    simp only [Nat.lt_irrefl, if_false] at hd
    clear hset hkp2 hrow hkp hx HR HI
    go_wp2
    go_roundw
    case rel => exact ⟨k + 1, by omega, by go_num, HN.out⟩
    case measure => simp [intOf]; omega
  obtain rfl : k = n := by omega
  have ho := own_of_row (B := w.heap.size) (hrow.congr (g := fun j => sv (p j)) fun i hi => by simp [hi]) (Nat.le_refl _) (by simp only [maxLen]; omega)
  have hlen : ((List.range k).map (fun j => sv (p j))).length = k := by simp
  have hcall := HT.out wr _ ((List.range k).map (fun j => sv (p j))) hkp (by rw [hlen]; exact ho) (by rw [hlen]; have := HKL.out.1; omega) hkp.size
  have Hcall := Lib.hid hcall
  have HB := Lib.hid hkp
  have hkk : (k : Int) ≤ (k : Int) := Int.le_refl _
  have HL := Lib.hid hlen
  clear hlt hk hkp ho hlen hcall HR HI hrow
  go_wp2_with fail
  refine Hcall.out.mono ?_
  rintro e w3 ⟨hb3, hr⟩
  have HB3 : Hid (Kept w w3) := Below.trans HB.out hb3
  clear hb3
  rcases hr with ⟨h3, rfl⟩ | ⟨ss, g3, cap3, h3, rfl, h5⟩
  · have H3 := Lib.hid h3
    clear h3
    go_wp2
    refine bodyPost_ret (v := .tuple #[.bool true, .slice none 0 0, .bool false, .int .i64 0, .bool false]) (by simp [results, Tryz.results36, go_sem]) rfl ?_
    exact ⟨HB3.out, .inl ⟨H3.out, rfl⟩⟩
  rw [HL.out] at h5 ⊢
  have hss := allSome_len h3
  obtain ⟨M, hM⟩ : ∃ M, M = k + ss.length := ⟨_, rfl⟩
  obtain ⟨Ls, hLs⟩ : ∃ Ls : List ByteArray, Ls = (List.range k).map p ++ ss := ⟨_, rfl⟩
  have hML : Ls.length = M := by rw [hLs, hM]; simp
  have hM1 : 1 ≤ M := by have := HKL.out.2; omega
  have hM2 : M ≤ 4194304 := by have := HKL.out.1; omega
  have hcont : (List.range k).map (fun j => sv (p j)) ++ ss.map sv = Ls.map sv := by rw [hLs, List.map_append, List.map_map]; rfl
  rw [hcont, ← hM] at h5
  rw [← hM]
  have hrd : Rd w3 (some ⟨g3, 0, none⟩) M (fun i => sv (Ls.getD i ⟨#[]⟩)) := (own_rd h5 rfl _ fun i hi => by simp [hML, hi, List.getD_eq_getElem?_getD]).2
  have HRD := Lib.hid hrd
  have H3 := Lib.hid (And.intro h3 (And.intro hM hLs))
  have hmk2 := make_gen 29 9 Tryz.underlying29 tixStr rfl (by omega) M M (Nat.le_refl _) (by omega)
  clear h3 h5 hrd hss hM hLs hML hcont
  go_wp2
  obtain ⟨W, HW⟩ : ∃ W : World, W = w3.alloc (.cells (madeCells #[.string ⟨#[]⟩] M) 9) := ⟨_, rfl⟩
  have HI : Hid (W.rowIs w3.heap.size 9 M (fun _ => .string ⟨#[]⟩) ∧ Kept w3 W) := by
    rw [HW]
    exact ⟨World.rowIs_made w3 _ M 9, kept_alloc _ _⟩
  rw [← HW]
  clear HW hmk2
  go_loopw [6, 13, 14, 15, 16, 43] (fun al _ _ _ _ i wr => ∃ j : Nat, j ≤ M ∧ i = .int .i64 j ∧ al = .bool true ∧ Hid (wr.rowIs w3.heap.size 9 M (fun t => if t < j then .string (Ls.getD t ⟨#[]⟩) else .string ⟨#[]⟩) ∧ Kept w3 wr)) (fun _ _ _ _ _ i _ => M - (intOf i).toNat)
  case atStart => exact ⟨0, Nat.zero_le _, rfl, rfl, by simpa using HI.out.1, HI.out.2⟩
  case round =>
  obtain ⟨j, hj, rfl, rfl, HR⟩ := hrel
  obtain ⟨hrow, hkp⟩ := HR.out
  by_cases hlt : j < M
  · have hc0 := rd_at0 (HRD.out.kept hkp) hlt
    obtain ⟨x, hx⟩ : ∃ x, x = Ls.getD j ⟨#[]⟩ := ⟨_, rfl⟩
    rw [← hx] at hc0
    have q4 : (0 : Int) ≤ (j : Int) := by omega
    have q5 : (j : Int) < (M : Int) := by omega
    have hd := hrow.cell hlt
    have hz := hrow.frozen j
    have hset := (hrow.set j (.string x)).congr (g := fun t => if t < j + 1 then .string (Ls.getD t ⟨#[]⟩) else .string ⟨#[]⟩) (fun t ht => by
      by_cases e : t = j
      · subst e; simp [hx]
      · simp only [if_neg e]; by_cases e2 : t < j
        · rw [if_pos e2, if_pos (by omega)]
        · rw [if_neg e2, if_neg (by omega)])
    have hkp2 := hkp.setCell (p := ⟨w3.heap.size, j, none⟩) (Nat.le_refl _) (.string x)
    have HN := Lib.hid (And.intro hset hkp2)
    simp only [Nat.lt_irrefl, if_false] at hd
    clear hset hkp2 hrow hkp hx HR HI
    go_wp2
    go_roundw
    case rel => exact ⟨j + 1, by omega, by go_num, rfl, HN.out⟩
    case measure => simp [intOf]; omega
  obtain rfl : j = M := by omega
  have hjj : (j : Int) ≤ (j : Int) := Int.le_refl _
  obtain ⟨P, hP⟩ : ∃ P, P = j - 1 := ⟨_, rfl⟩
  have hc0 := rd_at0 (HRD.out.kept hkp) (show P < j by omega)
  obtain ⟨x, hx⟩ : ∃ x, x = Ls.getD P ⟨#[]⟩ := ⟨_, rfl⟩
  rw [← hx] at hc0
  have q6 : (j : Int) - 1 = (P : Int) := by omega
  have q7 : (0 : Int) < (j : Int) := by omega
  have q8 : (0 : Int) ≤ (P : Int) := by omega
  have q9 : (P : Int) < (j : Int) := by omega
  have HF := Lib.hid (And.intro hrow hkp)
  clear hrow hkp HR HI hlt hj hx hP
  go_wp2
  refine bodyPost_ret (v := .tuple #[.bool false, .slice (some ⟨w3.heap.size, 0, none⟩) j j, .bool true, .int .i64 0, .bool false]) (by simp [results, Tryz.results36, go_sem]) rfl ?_
  obtain ⟨h1, h2, h4⟩ := H3.out
  refine ⟨HB3.out.trans HF.out.2, .inr ⟨ss, w3.heap.size, h1, by rw [h2], ?_⟩⟩
  rw [← h2, ← h4]
  exact rd_row (HF.out.1.congr fun i hi => by simp [hi])
end
end Go.Proofs.YtelbnidpchemiaaGreatDoor
