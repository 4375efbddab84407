/- ZZlistModuleDeps: what the law is told of each import. -/
import Derived.Test.YticjhbklcpoonaaGreatDoorDep
namespace Go.Proofs.YticjhbklcpoonaaGreatDoor
open Go.RowKit Go.Gq
set_option maxRecDepth 100000
theorem tixDep : (Tryz.prog.info? 53).map (fun i => (i.zero, i.size, i.bytes)) = some (some (.agg #[.int .i64 0, .string ⟨#[]⟩, .bool false, .string ⟨#[]⟩, .bool false, .bool false, .bool false]), 7, 56) := by kernel_rfl
theorem zeroAny (w : World) : (zeroValue 20).run Tryz.prog w = .ok .nilIface w := by kernel_rfl
abbrev z7 : Array Value := #[.int .i64 0, .string ⟨#[]⟩, .bool false, .string ⟨#[]⟩, .bool false, .bool false, .bool false]
theorem make_deps (n : Nat) (hn : n ≤ 65536) (w : World) :
    (Instr.makeSlice 49 (.int .i64 (n : Int)) (.int .i64 (n : Int))).run Tryz.prog w = .ok (.slice (some ⟨w.heap.size, 0, none⟩) n n) (w.alloc (.cells (madeCells z7 (n * 7)) 53)) := by
  obtain ⟨i, hi, hzz⟩ := Option.map_eq_some_iff.1 tixDep
  simp only [Prod.mk.injEq] at hzz
  obtain ⟨hz, hs, hb⟩ := hzz
  have hr := run_make (P := Tryz.prog) w 49 53 i _ Tryz.underlying49 hi hz .i64 .i64 n n (by omega) (by omega) (by rw [hb]; omega) (by omega)
  simp only [Int.toNat_natCast, hs] at hr
  exact hr
theorem rows_made (w : World) (n : Nat) (T : TypeId) : (w.alloc (.cells (madeCells z7 (n * 7)) T)).rowIs w.heap.size T (n * 7) (fun i => z7.toList.getD (i % 7) undef) :=
  ⟨_, heap_alloc_new w _, size_madeCells _ _, fun i hi => by
    have h7 : i % 7 < 7 := Nat.mod_lt _ (by decide)
    simp only [madeCells]
    simp only [Array.getElem?_map, Array.getElem?_range, if_pos hi, Option.map_some, show z7.size = 7 from rfl]
    generalize i % 7 = r at *
    match r, h7 with
    | 0, _ => rfl
    | 1, _ => rfl
    | 2, _ => rfl
    | 3, _ => rfl
    | 4, _ => rfl
    | 5, _ => rfl
    | 6, _ => rfl⟩
def seven (w : World) (b o : Nat) (v0 v1 v2 v3 v4 v5 v6 : Value) : World :=
  ((((((w.setCell ⟨b, o, none⟩ v0).setCell ⟨b, o + 1, none⟩ v1).setCell ⟨b, o + 2, none⟩ v2).setCell ⟨b, o + 3, none⟩ v3).setCell ⟨b, o + 4, none⟩ v4).setCell ⟨b, o + 5, none⟩ v5).setCell ⟨b, o + 6, none⟩ v6
theorem seven_step {X : World} {b n k : Nat} {T : TypeId} {F G : Nat → Value} (h : X.rowIs b T (n * 7) (fun i => if i / 7 < k then F i else G i)) (v0 v1 v2 v3 v4 v5 v6 : Value) (h0 : F (k * 7) = v0) (h1 : F (k * 7 + 1) = v1) (h2 : F (k * 7 + 2) = v2) (h3 : F (k * 7 + 3) = v3) (h4 : F (k * 7 + 4) = v4) (h5 : F (k * 7 + 5) = v5) (h6 : F (k * 7 + 6) = v6) :
    (seven X b (k * 7) v0 v1 v2 v3 v4 v5 v6).rowIs b T (n * 7) (fun i => if i / 7 < k + 1 then F i else G i) := by
  refine (((((((h.set (k * 7) v0).set (k * 7 + 1) v1).set (k * 7 + 2) v2).set (k * 7 + 3) v3).set (k * 7 + 4) v4).set (k * 7 + 5) v5).set (k * 7 + 6) v6).congr fun i _ => ?_
  subst h0 h1 h2 h3 h4 h5 h6
  by_cases e : i / 7 = k
  · rw [if_pos (show i / 7 < k + 1 by omega)]
    have hc : i = k * 7 ∨ i = k * 7 + 1 ∨ i = k * 7 + 2 ∨ i = k * 7 + 3 ∨ i = k * 7 + 4 ∨ i = k * 7 + 5 ∨ i = k * 7 + 6 := by omega
    rcases hc with rfl | rfl | rfl | rfl | rfl | rfl | rfl <;> simp
  · rw [if_neg (by omega), if_neg (by omega), if_neg (by omega), if_neg (by omega), if_neg (by omega), if_neg (by omega), if_neg (by omega)]
    by_cases e2 : i / 7 < k
    · rw [if_pos e2, if_pos (by omega)]
    · rw [if_neg e2, if_neg (by omega)]
theorem seven_below {w0 w : World} {B b o : Nat} (h : Below B w0 w) (hb : B ≤ b) (v0 v1 v2 v3 v4 v5 v6 : Value) : Below B w0 (seven w b o v0 v1 v2 v3 v4 v5 v6) :=
  ((((((h.setCell (p := ⟨b, o, none⟩) hb v0).setCell (p := ⟨b, o + 1, none⟩) hb v1).setCell (p := ⟨b, o + 2, none⟩) hb v2).setCell (p := ⟨b, o + 3, none⟩) hb v3).setCell (p := ⟨b, o + 4, none⟩) hb v4).setCell (p := ⟨b, o + 5, none⟩) hb v5).setCell (p := ⟨b, o + 6, none⟩) hb v6
/-- What the law is told of an import. -/
def depV (P A C : ByteArray) : List Value :=
  [.int .i64 ((depL P A C).length : Int), .string (relP P C), .bool true, .string (if A.toList.isEmpty then ⟨#[]⟩ else tpS A), .bool (!A.toList.isEmpty), .bool (hpB A), .bool true]
theorem lk_rel (P A C : ByteArray) : lkp kRel (depL P A C) = some (stI (relP P C)) := by
  have h1 : kRel ≠ kDat := by decide
  have h2 : kRel ≠ kAs := by decide
  unfold depL
  rw [lkp_aput, if_neg h1]
  split
  · rw [lkp_aput, if_pos rfl]
  · rw [lkp_aput, if_neg h2, lkp_aput, if_pos rfl]
theorem lk_as (P A C : ByteArray) : lkp kAs (depL P A C) = if A.toList.isEmpty then none else some (stI (tpS A)) := by
  have h1 : kAs ≠ kDat := by decide
  have h2 : kAs ≠ kRel := by decide
  unfold depL
  rw [lkp_aput, if_neg h1]
  split
  · rw [lkp_aput, if_neg h2]; rfl
  · rw [lkp_aput, if_pos rfl]
theorem lk_dat (P A C : ByteArray) : lkp kDat (depL P A C) = some (bI (hpB A)) := by
  unfold depL
  rw [lkp_aput, if_pos rfl]
set_option maxHeartbeats 8000000 in
theorem ZZdeps_any (q : Nat) (ia : Option Addr) (n ic : Nat) (ps : Nat → Nat) (P A C : Nat → ByteArray) (w : World) (hn : n ≤ 65536) (hq : w.cell? ⟨q, 1, none⟩ = some (.slice ia n ic)) (hi : Rd w ia n (fun j => .pointer (some ⟨ps j, 0, none⟩))) (him : ∀ j, j < n → ImpIs w (ps j) (P j) (A j) (C j)) (hs : ∀ j, j < n → (A j).size ≤ 9223372036854775807) :
    Calls Tryz.prog 17 #[.pointer (some ⟨q, 0, none⟩)] w fun e w' => ∃ ob, e = .returned (.tuple #[.slice (some ⟨ob, 0, none⟩) n n, .bool true]) ∧ w'.rowIs ob 53 (n * 7) (fun i => (depV (P (i / 7)) (A (i / 7)) (C (i / 7))).getD (i % 7) undef) ∧ Kept w w' := by
  have HC := Lib.hid (listDeps_any q ia n ic ps P A C w hn hq hi him hs)
  clear hq hi him hs
  go_enter Tryz.func17, Tryz.ntmps17
  go_wp2_with fail
  refine HC.out.mono ?_
  rintro e W0 ⟨rb, rfl, hD⟩
  have HD := Lib.hid hD
  have hmk := make_deps n hn W0
  clear hD HC
  go_wp2
  obtain ⟨W, HW⟩ : ∃ W : World, W = W0.alloc (.cells (madeCells z7 (n * 7)) 53) := ⟨_, rfl⟩
  have HI : Hid (W.rowIs W0.heap.size 53 (n * 7) (fun i => z7.toList.getD (i % 7) undef) ∧ Kept W0 W) := by
    rw [HW]
    exact ⟨rows_made W0 n _, kept_alloc _ _⟩
  rw [← HW]
  clear HW hmk
  go_loopw [30] (fun i wr => ∃ k : Nat, k ≤ n ∧ i = .int .i64 k ∧ Hid (wr.rowIs W0.heap.size 53 (n * 7) (fun i => if i / 7 < k then (depV (P (i / 7)) (A (i / 7)) (C (i / 7))).getD (i % 7) undef else z7.toList.getD (i % 7) undef) ∧ Kept W0 wr)) (fun i _ => n - (intOf i).toNat)
  case atStart => exact ⟨0, Nat.zero_le _, rfl, by simpa using HI.out.1, HI.out.2⟩
  case round =>
  obtain ⟨k, hk, rfl, HR⟩ := hrel
  by_cases hlt : k < n
  · obtain ⟨hrow, hkp⟩ := HR.out
    obtain ⟨mm, hdr, hms, hk0⟩ := HD.out
    have c0 : ∀ o, (wr.alloc o).cell? ⟨W0.heap.size, k * 7, none⟩ = some (.int .i64 0) := fun o => by
      have := (rowIs_kept hrow (kept_alloc wr o)).cell (i := k * 7) (by omega)
      rw [this, if_neg (by omega), show (k * 7) % 7 = 0 by omega]; rfl
    have d0 : ∀ o, (wr.alloc o).frozen? ⟨W0.heap.size, k * 7, none⟩ = false := fun o => (rowIs_kept hrow (kept_alloc wr o)).frozen (k * 7)
    have c1 : ∀ o, (wr.alloc o).cell? ⟨W0.heap.size, k * 7 + 1, none⟩ = some (.string ⟨#[]⟩) := fun o => by
      have := (rowIs_kept hrow (kept_alloc wr o)).cell (i := k * 7 + 1) (by omega)
      rw [this, if_neg (by omega), show (k * 7 + 1) % 7 = 1 by omega]; rfl
    have d1 : ∀ o, (wr.alloc o).frozen? ⟨W0.heap.size, k * 7 + 1, none⟩ = false := fun o => (rowIs_kept hrow (kept_alloc wr o)).frozen (k * 7 + 1)
    have c2 : ∀ o, (wr.alloc o).cell? ⟨W0.heap.size, k * 7 + 2, none⟩ = some (.bool false) := fun o => by
      have := (rowIs_kept hrow (kept_alloc wr o)).cell (i := k * 7 + 2) (by omega)
      rw [this, if_neg (by omega), show (k * 7 + 2) % 7 = 2 by omega]; rfl
    have d2 : ∀ o, (wr.alloc o).frozen? ⟨W0.heap.size, k * 7 + 2, none⟩ = false := fun o => (rowIs_kept hrow (kept_alloc wr o)).frozen (k * 7 + 2)
    have c3 : ∀ o, (wr.alloc o).cell? ⟨W0.heap.size, k * 7 + 3, none⟩ = some (.string ⟨#[]⟩) := fun o => by
      have := (rowIs_kept hrow (kept_alloc wr o)).cell (i := k * 7 + 3) (by omega)
      rw [this, if_neg (by omega), show (k * 7 + 3) % 7 = 3 by omega]; rfl
    have d3 : ∀ o, (wr.alloc o).frozen? ⟨W0.heap.size, k * 7 + 3, none⟩ = false := fun o => (rowIs_kept hrow (kept_alloc wr o)).frozen (k * 7 + 3)
    have c4 : ∀ o, (wr.alloc o).cell? ⟨W0.heap.size, k * 7 + 4, none⟩ = some (.bool false) := fun o => by
      have := (rowIs_kept hrow (kept_alloc wr o)).cell (i := k * 7 + 4) (by omega)
      rw [this, if_neg (by omega), show (k * 7 + 4) % 7 = 4 by omega]; rfl
    have d4 : ∀ o, (wr.alloc o).frozen? ⟨W0.heap.size, k * 7 + 4, none⟩ = false := fun o => (rowIs_kept hrow (kept_alloc wr o)).frozen (k * 7 + 4)
    have c5 : ∀ o, (wr.alloc o).cell? ⟨W0.heap.size, k * 7 + 5, none⟩ = some (.bool false) := fun o => by
      have := (rowIs_kept hrow (kept_alloc wr o)).cell (i := k * 7 + 5) (by omega)
      rw [this, if_neg (by omega), show (k * 7 + 5) % 7 = 5 by omega]; rfl
    have d5 : ∀ o, (wr.alloc o).frozen? ⟨W0.heap.size, k * 7 + 5, none⟩ = false := fun o => (rowIs_kept hrow (kept_alloc wr o)).frozen (k * 7 + 5)
    have c6 : ∀ o, (wr.alloc o).cell? ⟨W0.heap.size, k * 7 + 6, none⟩ = some (.bool false) := fun o => by
      have := (rowIs_kept hrow (kept_alloc wr o)).cell (i := k * 7 + 6) (by omega)
      rw [this, if_neg (by omega), show (k * 7 + 6) % 7 = 6 by omega]; rfl
    have d6 : ∀ o, (wr.alloc o).frozen? ⟨W0.heap.size, k * 7 + 6, none⟩ = false := fun o => (rowIs_kept hrow (kept_alloc wr o)).frozen (k * 7 + 6)
    have hc := (rowIs_kept hdr hkp).cell hlt
    rw [if_pos hlt] at hc
    have hm : wr.MapIs strKey (mm k) (depL (P k) (A k) (C k)) := mapIs_of_block strKey (hms k hlt) (hkp.block _ (mapIs_lt strKey (hms k hlt)))
    obtain ⟨m, em⟩ : ∃ m, m = mm k := ⟨_, rfl⟩
    rw [← em] at hc hm
    obtain ⟨xP, eP⟩ : ∃ x, x = P k := ⟨_, rfl⟩
    obtain ⟨xA, eA⟩ : ∃ x, x = A k := ⟨_, rfl⟩
    obtain ⟨xC, eC⟩ : ∃ x, x = C k := ⟨_, rfl⟩
    rw [← eP, ← eA, ← eC] at hm
    have HEQ := Lib.hid (And.intro eP (And.intro eA eC))
    obtain ⟨N, hN⟩ : ∃ N, N = (depL xP xA xC).length := ⟨_, rfl⟩
    have hlen : ∀ o, (Builtin.len_ #[113] 3 #[.map (some m)]).run Tryz.prog (wr.alloc o) = .ok (.int .i64 (N : Int)) (wr.alloc o) := fun o => by
      rw [hN]; exact run_len_assoc strKey Tryz.underlying113 (wr.alloc o) (mapIs_alloc strKey hm o) _
    have hlk : ∀ (x : ByteArray) o, (Instr.lookup 113 (.map (some m)) (.string x) true).run Tryz.prog (wr.alloc o) = .ok (.tuple #[(lkp x (depL xP xA xC)).getD .nilIface, .bool (lkp x (depL xP xA xC)).isSome]) (wr.alloc o) := fun x o =>
      run_lookup_assoc strKey Tryz.underlying113 Tryz.underlying9 (wr.alloc o) (mapIs_alloc strKey hm o) x _ (zeroAny _) true
    have l1 := hlk kRel
    have l2 := hlk kAs
    have l3 := hlk kDat
    rw [lk_rel] at l1
    rw [lk_as] at l2
    rw [lk_dat] at l3
    simp only [Option.getD, Option.isSome] at l1 l3
    obtain ⟨xR, hR⟩ : ∃ x, x = relP xP xC := ⟨_, rfl⟩
    obtain ⟨xD, hDt⟩ : ∃ x, x = hpB xA := ⟨_, rfl⟩
    rw [← hR] at l1
    rw [← hDt] at l3
    cases hAE : xA.toList.isEmpty with
    | true =>
      have hF : ∀ j, j < 7 → (depV (P ((k * 7 + j) / 7)) (A ((k * 7 + j) / 7)) (C ((k * 7 + j) / 7))).getD ((k * 7 + j) % 7) undef = [Value.int .i64 (N : Int), .string xR, .bool true, .string ⟨#[]⟩, .bool false, .bool xD, .bool true].getD j undef := fun j hj => by
        rw [show (k * 7 + j) / 7 = k by omega, show (k * 7 + j) % 7 = j by omega, ← eP, ← eA, ← eC]
        unfold depV
        rw [hAE, ← hN, ← hR, ← hDt]
        rfl
      have hstep := Lib.hid (And.intro (seven_step (rowIs_kept hrow (kept_alloc wr (.cells #[.int .i64 (N : Int), .string xR, .bool true, .string ⟨#[]⟩, .bool false, .bool xD, .bool true] 53))) (.int .i64 (N : Int)) (.string xR) (.bool true) (.string ⟨#[]⟩) (.bool false) (.bool xD) (.bool true) (hF 0 (by omega)) (hF 1 (by omega)) (hF 2 (by omega)) (hF 3 (by omega)) (hF 4 (by omega)) (hF 5 (by omega)) (hF 6 (by omega))) (seven_below (o := k * 7) (hkp.trans (kept_alloc wr (.cells #[.int .i64 (N : Int), .string xR, .bool true, .string ⟨#[]⟩, .bool false, .bool xD, .bool true] 53))) (Nat.le_refl _) (.int .i64 (N : Int)) (.string xR) (.bool true) (.string ⟨#[]⟩) (.bool false) (.bool xD) (.bool true)))
      rw [hAE] at l2
      simp only [if_true, Option.getD, Option.isSome] at l2
      clear hms hdr hm em hk0 HR HI eP eA eC hF hN hR hDt hrow hkp hlk
      go_wp2
      go_roundw
      case rel => exact ⟨k + 1, by omega, by go_num, hstep.out⟩
      case measure => simp [intOf]; omega
    | false =>
      have hF : ∀ j, j < 7 → (depV (P ((k * 7 + j) / 7)) (A ((k * 7 + j) / 7)) (C ((k * 7 + j) / 7))).getD ((k * 7 + j) % 7) undef = [Value.int .i64 (N : Int), .string xR, .bool true, .string (tpS xA), .bool true, .bool xD, .bool true].getD j undef := fun j hj => by
        rw [show (k * 7 + j) / 7 = k by omega, show (k * 7 + j) % 7 = j by omega, ← eP, ← eA, ← eC]
        unfold depV
        rw [hAE, ← hN, ← hR, ← hDt]
        rfl
      have hstep := Lib.hid (And.intro (seven_step (rowIs_kept hrow (kept_alloc wr (.cells #[.int .i64 (N : Int), .string xR, .bool true, .string (tpS xA), .bool true, .bool xD, .bool true] 53))) (.int .i64 (N : Int)) (.string xR) (.bool true) (.string (tpS xA)) (.bool true) (.bool xD) (.bool true) (hF 0 (by omega)) (hF 1 (by omega)) (hF 2 (by omega)) (hF 3 (by omega)) (hF 4 (by omega)) (hF 5 (by omega)) (hF 6 (by omega))) (seven_below (o := k * 7) (hkp.trans (kept_alloc wr (.cells #[.int .i64 (N : Int), .string xR, .bool true, .string (tpS xA), .bool true, .bool xD, .bool true] 53))) (Nat.le_refl _) (.int .i64 (N : Int)) (.string xR) (.bool true) (.string (tpS xA)) (.bool true) (.bool xD) (.bool true)))
      rw [hAE] at l2
      simp only [if_false, Bool.false_eq_true, Option.getD, Option.isSome] at l2
      clear hms hdr hm em hk0 HR HI eP eA eC hF hN hR hDt hrow hkp hlk
      go_wp2
      go_roundw
      case rel => exact ⟨k + 1, by omega, by go_num, hstep.out⟩
      case measure => simp [intOf]; omega
  · obtain rfl : k = n := by omega
    obtain ⟨mm, hdr, hms, hk0⟩ := HD.out
    have HF := Lib.hid (And.intro (HR.out.1.congr (g := fun i => (depV (P (i / 7)) (A (i / 7)) (C (i / 7))).getD (i % 7) undef) fun i hi => by rw [if_pos (by omega)]) (hk0.trans HR.out.2))
    clear HR HI hms hdr hk0
    go_wp2
    go_ret2
    exact ⟨_, rfl, HF.out⟩
end Go.Proofs.YticjhbklcpoonaaGreatDoor
