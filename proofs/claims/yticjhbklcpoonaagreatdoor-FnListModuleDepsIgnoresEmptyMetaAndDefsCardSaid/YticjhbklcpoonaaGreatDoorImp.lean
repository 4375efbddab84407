/- The imports that the law builds. -/
import Derived.Test.YticjhbklcpoonaaGreatDoorGrd
import Derived.Test.YticjhbklcpoonaaGreatDoorZzd
import Derived.StillTailTactics
namespace Go.Proofs.YticjhbklcpoonaaGreatDoor
open Go.RowKit Go.Gq
set_option maxRecDepth 100000
theorem tixImp : (Tryz.prog.info? 109).map (fun i => (i.zero, i.size, i.bytes)) = some (some (.pointer none), 1, 8) := by kernel_rfl
def ImpsAre (w0 wr : World) (rb n k : Nat) (P A C : Nat → ByteArray) : Prop :=
  ∃ pp : Nat → Nat, wr.rowIs rb 109 n (fun j => if j < k then .pointer (some ⟨pp j, 0, none⟩) else .pointer none) ∧ (∀ j, j < k → ImpIs wr (pp j) (P j) (A j) (C j)) ∧ Kept w0 wr
theorem ImpIs.set {X : World} {p rb k n : Nat} {T : TypeId} {f : Nat → Value} {P A C : ByteArray} {v : Value} (h : ImpIs X p P A C) (hr : X.rowIs rb T n f) (h0 : 0 < n) (hf : ∃ a, f 0 = .pointer a) : ImpIs (X.setCell ⟨rb, k, none⟩ v) p P A C := by
  obtain ⟨g0, g1, g2, g3⟩ := h
  obtain ⟨a, ha⟩ := hf
  have hc := hr.cell h0
  rw [ha] at hc
  have hp : rb ≠ p := fun e => by subst e; rw [hc] at g0; cases g0
  have oth : ∀ (q : Nat) (o : Nat) (u : Value), rb ≠ q → X.cell? ⟨q, o, none⟩ = some u → (X.setCell ⟨rb, k, none⟩ v).cell? ⟨q, o, none⟩ = some u := fun q o u hq hu => by
    rw [World.cell?_setCell_other _ _ _ _ (fun e => hq (by injection e))]; exact hu
  refine ⟨oth _ _ _ hp g0, oth _ _ _ hp g1, oth _ _ _ hp g2, ?_⟩
  rcases g3 with g | ⟨m, g, g'⟩
  · exact .inl (oth _ _ _ hp g)
  · refine .inr ⟨m, oth _ _ _ hp g, oth _ _ _ (fun e => ?_) g'⟩
    subst e; rw [hc] at g'; cases g'
theorem imps_step {w0 wr X : World} {rb n k p : Nat} {P A C : Nat → ByteArray} (h : ImpsAre w0 wr rb n k P A C) (hk : k < n) (hkp : Kept wr X) (hI : ImpIs X p (P k) (A k) (C k)) (h0 : w0.heap.size ≤ rb) :
    ImpsAre w0 (X.setCell ⟨rb, k, none⟩ (.pointer (some ⟨p, 0, none⟩))) rb n (k + 1) P A C := by
  obtain ⟨pp, hr, hi, hkk⟩ := h
  have hr2 := rowIs_kept hr hkp
  have hf : ∃ a, (if 0 < k then Value.pointer (some ⟨pp 0, 0, none⟩) else .pointer none) = .pointer a := by
    by_cases e : 0 < k
    · exact ⟨_, if_pos e⟩
    · exact ⟨_, if_neg e⟩
  refine ⟨fun j => if j = k then p else pp j, ?_, ?_, ?_⟩
  · refine (hr2.set k _).congr fun j hj => ?_
    by_cases e : j = k
    · subst e; simp
    · simp only [if_neg e]
      by_cases e2 : j < k
      · rw [if_pos e2, if_pos (by omega)]
      · rw [if_neg e2, if_neg (by omega)]
  · intro j hj
    by_cases e : j = k
    · subst e; simp only [if_true]; exact hI.set hr2 (by omega) hf
    · simp only [if_neg e]; exact ((hi j (by omega)).kept hkp).set hr2 (by omega) hf
  · exact (hkk.trans hkp).setCell (p := ⟨rb, k, none⟩) h0 _
set_option maxHeartbeats 4000000 in
theorem imports_false (a0 a1 a2 : Option Addr) (n0 n1 n2 c0 c1 c2 n : Nat) (P A C : Nat → ByteArray) (w : World) (h0 : Rd w a0 n0 (fun j => .string (P j))) (h1 : Rd w a1 n1 (fun j => .string (A j))) (h2 : Rd w a2 n2 (fun j => .string (C j))) (hn : n ≤ 65536) (g0 : n ≤ n0) (g1 : n ≤ n1) (g2 : n ≤ n2) :
    Calls Tryz.prog 16 #[.slice a0 n0 c0, .slice a1 n1 c1, .slice a2 n2 c2, .int .i64 (n : Int), .bool false] w fun e w' => ∃ rb, e = .returned (.slice (some ⟨rb, 0, none⟩) n n) ∧ ImpsAre w w' rb n n P A C := by
  have H0 := Lib.hid (And.intro h0 (And.intro h1 h2))
  have hmk := make_gen 34 109 Tryz.underlying34 tixImp rfl (by omega) n n (Nat.le_refl _) (by omega)
  clear h0 h1 h2
  go_enter Tryz.func16, Tryz.ntmps16
  go_wp2
  obtain ⟨W, HW⟩ : ∃ W : World, W = w.alloc (.cells (madeCells #[.pointer none] n) 109) := ⟨_, rfl⟩
  have HI : Hid (ImpsAre w W w.heap.size n 0 P A C) := by
    rw [HW]
    exact ⟨fun _ => 0, by simpa using World.rowIs_made w (.pointer none) n 109, fun j hj => absurd hj (Nat.not_lt_zero _), kept_alloc _ _⟩
  rw [← HW]
  clear HW hmk
  go_loopw [12, 13] (fun i _ wr => ∃ k : Nat, k ≤ n ∧ i = .int .i64 k ∧ Hid (ImpsAre w wr w.heap.size n k P A C)) (fun i _ _ => n - (intOf i).toNat)
  case atStart => exact ⟨0, Nat.zero_le _, rfl, HI.out⟩
  case round =>
  obtain ⟨k, hk, rfl, HR⟩ := hrel
  by_cases hlt : k < n
  · obtain ⟨pp, hrow, hi, hkp⟩ := HR.out
    obtain ⟨r0, r1, r2⟩ := H0.out
    obtain ⟨b0, o0, e0, q0⟩ := (r0.kept hkp).at (show k < n0 by omega)
    obtain ⟨b1, o1, e1, q1⟩ := (r1.kept hkp).at (show k < n1 by omega)
    obtain ⟨b2, o2, e2, q2⟩ := (r2.kept hkp).at (show k < n2 by omega)
    subst e0 e1 e2
    obtain ⟨xP, eP⟩ : ∃ x, x = P k := ⟨_, rfl⟩
    obtain ⟨xA, eA⟩ : ∃ x, x = A k := ⟨_, rfl⟩
    obtain ⟨xC, eC⟩ : ∃ x, x = C k := ⟨_, rfl⟩
    rw [← eP] at q0
    rw [← eA] at q1
    rw [← eC] at q2
    have cf := fun j v h => cell_fresh wr #[.string xP, .string xA, .string xC, .pointer none] 111 j v h
    have cf0 := kept_cell (kept_drew _) (cf 0 _ rfl)
    have cf1 := kept_cell (kept_drew _) (cf 1 _ rfl)
    have cf2 := kept_cell (kept_drew _) (cf 2 _ rfl)
    have cf3 := kept_cell (kept_drew _) (cf 3 _ rfl)
    have kx : Kept wr ((wr.alloc (.cells #[.string xP, .string xA, .string xC, .pointer none] 111)).drew) := (kept_alloc wr _).trans (kept_drew _)
    have hI : ImpIs ((wr.alloc (.cells #[.string xP, .string xA, .string xC, .pointer none] 111)).drew) wr.heap.size xP xA xC := ⟨cf0, cf1, cf2, .inl cf3⟩
    have hstep := Lib.hid (imps_step HR.out hlt kx (by rw [← eP, ← eA, ← eC]; exact hI) (Nat.le_refl _))
    have hrx := rowIs_kept hrow kx
    have hd := hrx.cell hlt
    have hz := hrx.frozen k
    simp only [Nat.lt_irrefl, if_false] at hd
    have t0 : (0 : Int) ≤ (k : Int) := by omega
    have t1 : (k : Int) < (n0 : Int) := by omega
    have t2 : (k : Int) < (n1 : Int) := by omega
    have t3 : (k : Int) < (n2 : Int) := by omega
    clear hrow hi hkp HR HI r0 r1 r2 eP eA eC kx hI hrx cf cf0 cf1 cf2 cf3 
    go_wp2_with fail
    go_still_tail 13, (by kernel_rfl)
    go_wp2_with fail
    go_roundw
    case rel => exact ⟨k + 1, by omega, by go_num, hstep.out⟩
    case measure => simp [intOf]; omega
  · obtain rfl : k = n := by omega
    go_wp2
    go_ret
    exact ⟨_, rfl, HR.out⟩
set_option maxHeartbeats 4000000 in
theorem imports_true (a0 a1 a2 : Option Addr) (n0 n1 n2 c0 c1 c2 n : Nat) (P A C : Nat → ByteArray) (w : World) (h0 : Rd w a0 n0 (fun j => .string (P j))) (h1 : Rd w a1 n1 (fun j => .string (A j))) (h2 : Rd w a2 n2 (fun j => .string (C j))) (hn : n ≤ 65536) (g0 : n ≤ n0) (g1 : n ≤ n1) (g2 : n ≤ n2) :
    Calls Tryz.prog 16 #[.slice a0 n0 c0, .slice a1 n1 c1, .slice a2 n2 c2, .int .i64 (n : Int), .bool true] w fun e w' => ∃ rb, e = .returned (.slice (some ⟨rb, 0, none⟩) n n) ∧ ImpsAre w w' rb n n P A C := by
  have H0 := Lib.hid (And.intro h0 (And.intro h1 h2))
  have hmk := make_gen 34 109 Tryz.underlying34 tixImp rfl (by omega) n n (Nat.le_refl _) (by omega)
  clear h0 h1 h2
  go_enter Tryz.func16, Tryz.ntmps16
  go_wp2
  obtain ⟨W, HW⟩ : ∃ W : World, W = w.alloc (.cells (madeCells #[.pointer none] n) 109) := ⟨_, rfl⟩
  have HI : Hid (ImpsAre w W w.heap.size n 0 P A C) := by
    rw [HW]
    exact ⟨fun _ => 0, by simpa using World.rowIs_made w (.pointer none) n 109, fun j hj => absurd hj (Nat.not_lt_zero _), kept_alloc _ _⟩
  rw [← HW]
  clear HW hmk
  go_loopw [12, 13] (fun i _ wr => ∃ k : Nat, k ≤ n ∧ i = .int .i64 k ∧ Hid (ImpsAre w wr w.heap.size n k P A C)) (fun i _ _ => n - (intOf i).toNat)
  case atStart => exact ⟨0, Nat.zero_le _, rfl, HI.out⟩
  case round =>
  obtain ⟨k, hk, rfl, HR⟩ := hrel
  by_cases hlt : k < n
  · obtain ⟨pp, hrow, hi, hkp⟩ := HR.out
    obtain ⟨r0, r1, r2⟩ := H0.out
    obtain ⟨b0, o0, e0, q0⟩ := (r0.kept hkp).at (show k < n0 by omega)
    obtain ⟨b1, o1, e1, q1⟩ := (r1.kept hkp).at (show k < n1 by omega)
    obtain ⟨b2, o2, e2, q2⟩ := (r2.kept hkp).at (show k < n2 by omega)
    subst e0 e1 e2
    obtain ⟨xP, eP⟩ : ∃ x, x = P k := ⟨_, rfl⟩
    obtain ⟨xA, eA⟩ : ∃ x, x = A k := ⟨_, rfl⟩
    obtain ⟨xC, eC⟩ : ∃ x, x = C k := ⟨_, rfl⟩
    rw [← eP] at q0
    rw [← eA] at q1
    rw [← eC] at q2
    have cf := fun j v h => cell_fresh wr #[.string xP, .string xA, .string xC, .pointer (some ⟨wr.heap.size + 1, 0, none⟩)] 111 j v h
    have ku : ∀ o : Obj, Kept (wr.alloc (.cells #[.string xP, .string xA, .string xC, .pointer (some ⟨wr.heap.size + 1, 0, none⟩)] 111)) ((wr.alloc (.cells #[.string xP, .string xA, .string xC, .pointer (some ⟨wr.heap.size + 1, 0, none⟩)] 111)).alloc o).drew := fun o => (kept_alloc _ o).trans (kept_drew _)
    have cf0 := kept_cell (ku (.cells #[.slice none 0 0] 45)) (cf 0 _ rfl)
    have cf1 := kept_cell (ku (.cells #[.slice none 0 0] 45)) (cf 1 _ rfl)
    have cf2 := kept_cell (ku (.cells #[.slice none 0 0] 45)) (cf 2 _ rfl)
    have cf3 := kept_cell (ku (.cells #[.slice none 0 0] 45)) (cf 3 _ rfl)
    have cf4 := kept_cell (kept_drew _) (cell_fresh (wr.alloc (.cells #[.string xP, .string xA, .string xC, .pointer (some ⟨wr.heap.size + 1, 0, none⟩)] 111)) #[.slice none 0 0] 45 0 _ rfl)
    rw [World.size_alloc] at cf4
    have kx : Kept wr (((wr.alloc (.cells #[.string xP, .string xA, .string xC, .pointer (some ⟨wr.heap.size + 1, 0, none⟩)] 111)).alloc (.cells #[.slice none 0 0] 45)).drew) := ((kept_alloc wr _).trans (kept_alloc _ _)).trans (kept_drew _)
    have hI : ImpIs (((wr.alloc (.cells #[.string xP, .string xA, .string xC, .pointer (some ⟨wr.heap.size + 1, 0, none⟩)] 111)).alloc (.cells #[.slice none 0 0] 45)).drew) wr.heap.size xP xA xC := ⟨cf0, cf1, cf2, .inr ⟨_, cf3, cf4⟩⟩
    have hstep := Lib.hid (imps_step HR.out hlt kx (by rw [← eP, ← eA, ← eC]; exact hI) (Nat.le_refl _))
    have hrx := rowIs_kept hrow kx
    have hd := hrx.cell hlt
    have hz := hrx.frozen k
    simp only [Nat.lt_irrefl, if_false] at hd
    have t0 : (0 : Int) ≤ (k : Int) := by omega
    have t1 : (k : Int) < (n0 : Int) := by omega
    have t2 : (k : Int) < (n1 : Int) := by omega
    have t3 : (k : Int) < (n2 : Int) := by omega
    clear hrow hi hkp HR HI r0 r1 r2 eP eA eC kx hI hrx cf cf0 cf1 cf2 cf3 ku cf4
    go_wp2_with fail
    go_still_tail 13, (by kernel_rfl)
    go_wp2_with fail
    go_roundw
    case rel => exact ⟨k + 1, by omega, by go_num, hstep.out⟩
    case measure => simp [intOf]; omega
  · obtain rfl : k = n := by omega
    go_wp2
    go_ret
    exact ⟨_, rfl, HR.out⟩
end Go.Proofs.YticjhbklcpoonaaGreatDoor
