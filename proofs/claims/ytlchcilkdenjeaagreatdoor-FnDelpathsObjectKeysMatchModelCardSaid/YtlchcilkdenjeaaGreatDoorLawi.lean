/- The walk of FnUpdateObjectKeySetsOneKeyKeepsRest. -/
import Derived.Test.YtlchcilkdenjeaaGreatDoorObjs
namespace Go.Proofs.YtlchcilkdenjeaaGreatDoor
open Go.RowKit Go.Gq
set_option maxRecDepth 100000
set_option maxHeartbeats 1000000 in
theorem zzBytes_FnUpdateObjectKeySetsOneKeyKeepsRest_any (a0 : Option Addr) (n0 c0 : Nat) (s : Nat → ByteArray) (key : ByteArray) (n : Int) (w : World) (h0 : Rd w a0 n0 (fun i => .string (s i))) (m0 : n0 ≤ 9223372036854775807) (mk : key.size ≤ 9223372036854775807) (ms : ∀ i, i < n0 → (s i).size ≤ 9223372036854775807) :
    Calls Tryz.prog 32 #[.slice a0 n0 c0, .string key, .int .i64 n] w (SomeBool w) := by
  have H0 := Lib.hid h0
  have HS := Lib.hid ms
  clear h0 ms
  by_cases g0 : n0 ≤ 1048576
  rotate_left
  · go_enter Tryz.func32, Tryz.ntmps32
    go_wp2
    go_ret
    exact ⟨false, rfl, rfl⟩
  go_enter Tryz.func32, Tryz.ntmps32
  go_wp2
  go_loop [7, 8] (fun t i => ∃ (k : Nat) (z : Int), k ≤ n0 ∧ i = .int .i64 k ∧ t = .int .i64 z ∧ 0 ≤ z ∧ z ≤ 1048576) (fun _ i => n0 - (intOf i).toNat)
  case atStart => exact ⟨0, _, Nat.zero_le _, rfl, rfl, by omega, by omega⟩
  case round =>
    obtain ⟨k, z, hk, rfl, rfl, hz0, hz1⟩ := hrel
    by_cases hlt : k < n0
    · obtain ⟨b, off, e1, hc⟩ := H0.out.at hlt
      subst e1
      obtain ⟨x, hx⟩ : ∃ x, x = s k := ⟨_, rfl⟩
      have hsz : x.size ≤ 9223372036854775807 := by rw [hx]; exact HS.out k hlt
      rw [← hx] at hc
      clear hx
      by_cases q1 : x.size ≤ 1048576
      rotate_left
      · go_wp2
        go_ret
        exact ⟨false, rfl, rfl⟩
      by_cases q2 : z + x.size ≤ 1048576
      rotate_left
      · go_wp2
        go_ret
        exact ⟨false, rfl, rfl⟩
      go_wp2
      go_round
      case rel => exact ⟨k + 1, z + x.size, by omega, by go_num, rfl, by omega, by omega⟩
      case measure => simp [intOf]; omega
    · by_cases q1 : key.size ≤ 1048576
      rotate_left
      · go_wp2
        go_ret
        exact ⟨false, rfl, rfl⟩
      by_cases q2 : z + key.size ≤ 1048576
      rotate_left
      · go_wp2
        go_ret
        exact ⟨false, rfl, rfl⟩
      go_wp2
      go_ret
      exact ⟨true, rfl, rfl⟩
/-- What update answers at a key of an object. -/
def UpdAns (k : ByteArray) (n : Int) (L : List (ByteArray × Value)) (W : World) (u er : Value) (w' : World) : Prop :=
  er = .nilIface ∧ ∃ b D, u = .iface 41 (.map (some b)) ∧ w'.MapIs strKey b D ∧ (∀ x, lkp x D = if x = k then some (ib n) else lkp x L) ∧ Kept W w'
theorem updateObject_key (bm : Nat) (L : List (ByteArray × Value)) (k : ByteArray) (n : Int) (pa : Option Addr) (pc : Nat) (W : World) (hm : W.MapIs strKey bm L) (hL : L.length ≤ 65536) :
    Calls Tryz.prog 37 #[.map (some bm), .string k, .slice pa 0 pc, ib n, .map none] W (Two (UpdAns k n L W)) :=
  (updateObject_any (some bm) L k pa pc _ _ none W (.inr ⟨_, rfl, hm⟩) (.inl ⟨rfl, rfl⟩) (fun b _ e => by cases e) (by omega) (ib_not_marker n)).mono fun e w' ⟨b, D, h1, _, h2, h3, h4, _⟩ => ⟨_, _, h1, rfl, b, D, rfl, h2, h3, h4.below (Nat.le_refl _) (fun i e => by cases e)⟩
set_option maxHeartbeats 8000000 in
theorem FnUpdateObjectKeySetsOneKeyKeepsRest_walk (a0 : Option Addr) (n0 c0 : Nat) (s : Nat → ByteArray) (key : ByteArray) (n : Int) (w : World) (h0 : Rd w a0 n0 (fun i => .string (s i))) (m0 : n0 ≤ 9223372036854775807) (mk : key.size ≤ 9223372036854775807) (ms : ∀ i, i < n0 → (s i).size ≤ 9223372036854775807) :
    Calls Tryz.prog 11 #[.slice a0 n0 c0, .string key, .int .i64 n] w (TrueKept w) := by
  have H0 := Lib.hid h0
  have HS := Lib.hid ms
  have hmo := make_objH n0
  have hmi := make_intH n0
  have qn : (n != n) = false := by simp
  clear h0 ms
  go_enter Tryz.func11, Tryz.ntmps11
  go_wp2_with fail
  refine (zzBytes_FnUpdateObjectKeySetsOneKeyKeepsRest_any a0 n0 c0 s key n w H0.out m0 mk HS.out).mono ?_
  rintro e w1 ⟨b, rfl, rfl⟩
  cases b with
  | false =>
    go_wp2
    go_ret
    exact ⟨rfl, Below.refl _ _⟩
  | true =>
  by_cases g0 : 65536 < n0
  · go_wp2
    go_ret
    exact ⟨rfl, Below.refl _ _⟩
  by_cases g1 : 524288 < key.size
  · go_wp2
    go_ret
    exact ⟨rfl, Below.refl _ _⟩
  go_wp2_with fail
  refine (zzStrBytes_any a0 n0 c0 s w H0.out m0).mono ?_
  rintro e w1 ⟨t0, rfl, rfl⟩
  by_cases g2 : 1048576 < wrap64 (t0 + key.size)
  · go_wp2
    go_ret
    exact ⟨rfl, Below.refl _ _⟩
  go_wp2_with fail
  clear g2
  obtain ⟨W, hW⟩ : ∃ W : World, W = (w.alloc (.map #[] 0)).alloc (.map #[] 0) := ⟨_, rfl⟩
  have hk0 : Kept w W := by rw [hW]; exact (kept_alloc _ _).trans (kept_alloc _ _)
  have hmA : W.MapIs strKey w.heap.size [] := by rw [hW]; exact mapIs_alloc strKey (mapIs_new strKey w) _
  have hmB : W.MapIs strKey (w.heap.size + 1) [] := by
    rw [hW]
    have := mapIs_new strKey (w.alloc (.map #[] 0))
    simpa using this
  rw [← hW]
  have HI := Lib.hid (And.intro hk0 (And.intro hmA hmB))
  clear hk0 hmA hmB hW hmo hmi
  go_loopw [9] (fun i wr => ∃ q : Nat, q ≤ n0 ∧ i = .int .i64 q ∧ Hid (Kept w wr ∧ wr.MapIs strKey w.heap.size (mapN fA s q) ∧ wr.MapIs strKey (w.heap.size + 1) (mapN fI s q))) (fun i _ => n0 - (intOf i).toNat)
  case atStart => exact ⟨0, Nat.zero_le _, rfl, HI.out⟩
  case round =>
    obtain ⟨q, hq, rfl, HR⟩ := hrel
    by_cases hlt : q < n0
    · obtain ⟨hk, hA, hB⟩ := HR.out
      obtain ⟨xb, xo, e1, hc⟩ := (H0.out.kept hk).at hlt
      subst e1
      obtain ⟨x, hx⟩ : ∃ x, x = s q := ⟨_, rfl⟩
      obtain ⟨w2, hu1, hA2, ho2⟩ := run_mapUpdate_assoc strKey (P := Tryz.prog) Tryz.underlying41 Tryz.underlying9 wr hA x (ib q)
      have hB2 := mapIs_of_block strKey hB (ho2.block _ (by omega))
      have hk2 : Kept w w2 := Below.trans hk (ho2.below (Nat.le_refl _))
      obtain ⟨w3, hu2, hB3, ho3⟩ := run_mapUpdate_assoc strKey (P := Tryz.prog) Tryz.underlying50 Tryz.underlying9 w2 hB2 x (.int .i64 q)
      have hA3 := mapIs_of_block strKey hA2 (ho3.block _ (by omega))
      have hk3 : Kept w w3 := Below.trans hk2 (ho3.below (by omega))
      obtain ⟨xb2, xo2, e2, hc2⟩ := (H0.out.kept hk2).at hlt
      injection e2 with e2
      injection e2 with e2 e3
      subst e2 e3
      rw [← hx] at hc hc2
      have HN : Hid (Kept w w3 ∧ w3.MapIs strKey w.heap.size (mapN fA s (q + 1)) ∧ w3.MapIs strKey (w.heap.size + 1) (mapN fI s (q + 1))) := by
        refine ⟨hk3, ?_, ?_⟩
        · simp only [mapN, ← hx]; exact hA3
        · simp only [mapN, ← hx]; exact hB3
      simp only [strKey] at hu1 hu2
      clear hx hk hA hB hA2 ho2 hB2 hk2 hB3 ho3 hA3 hk3 HR
      go_wp2
      go_roundw
      case rel => exact ⟨q + 1, by omega, by go_num, HN.out⟩
      case measure => simp [intOf]; omega
    · obtain rfl : q = n0 := by omega
      obtain ⟨hk, hA, hB⟩ := HR.out
      have hle := len_mapN fA s q
      obtain ⟨N, hN⟩ : ∃ N, N = (mapN fA s q).length := ⟨_, rfl⟩
      have hln := fun ty => run_len_assoc strKey (P := Tryz.prog) Tryz.underlying41 wr hA ty
      have hlk := run_lookup_assoc strKey (P := Tryz.prog) Tryz.underlying41 Tryz.underlying9 wr hA key _ (zeroAny wr) true
      rw [← hN] at hln hle
      have HN := Lib.hid hN
      clear hN
      cases hg : lkp key (mapN fA s q)
      all_goals
        rw [hg] at hlk
        have HG := Lib.hid hg
        clear hg
        simp only [strKey] at hlk
        have HM := Lib.hid (And.intro hk (And.intro hA hB))
        clear hk hA hB HR HI
        go_wp2_with fail
        obtain ⟨hk, hA, hB⟩ := HM.out
        have kW := kept_alloc wr (.cells #[.iface 9 (.string key)] 20)
        refine (ZZupdate_run _ _ _ _ _ _ _ (update_key_obj (Q := UpdAns key n (mapN fA s q) _) wr.heap.size _ _ _ (some w.heap.size) key (cell1 _ _ _ _ rfl) (updateObject_key w.heap.size (mapN fA s q) key n _ _ _ (mapIs_of_block strKey hA (kW.block _ (mapIs_lt strKey hA))) (by have := HN.out; omega)))).mono ?_
        rintro e w4 ⟨u, er, rfl, rfl, b4, D, rfl, hD, hlD, hk4⟩
        have k4 : Kept wr w4 := kW.trans hk4
        have hA4 := mapIs_of_block strKey hA (k4.block _ (mapIs_lt strKey hA))
        have hB4 := mapIs_of_block strKey hB (k4.block _ (mapIs_lt strKey hB))
        have k04 : Hid (Kept w w4) := hk.trans k4
        have hlen := len_set (mapIs_nd strKey hD) (nd_mapN fA s q) hlD
        rw [HG.out, ← HN.out] at hlen
        simp only [Option.isSome_none, Option.isSome_some, Bool.false_eq_true, if_false, if_true] at hlen
        have hln4 := fun ty => run_len_assoc strKey (P := Tryz.prog) Tryz.underlying41 w4 hA4 ty
        have hln5 := fun ty => run_len_assoc strKey (P := Tryz.prog) Tryz.underlying41 w4 hD ty
        rw [← HN.out] at hln4
        rw [hlen] at hln5
        have hlk5 := run_lookup_assoc strKey (P := Tryz.prog) Tryz.underlying41 Tryz.underlying9 w4 hD key _ (zeroAny w4) false
        rw [hlD key, if_pos rfl] at hlk5
        have hlk4 := run_lookup_assoc strKey (P := Tryz.prog) Tryz.underlying41 Tryz.underlying9 w4 hA4 key _ (zeroAny w4) true
        rw [HG.out] at hlk4
        simp only [strKey, Bool.false_eq_true, if_false, Option.getD_some] at hlk5 hlk4
        have HD := Lib.hid (And.intro hA4 (And.intro hB4 (And.intro hD hlD)))
        have q1 : ((N : Int) != (N : Int)) = false := by simp
        have q2 : (((N : Int) + 1) != (N : Int) + 1) = false := by simp
        have q3 : ((((N + 1 : Nat)) : Int) != (N : Int) + 1) = false := by simp
        clear hA4 hB4 hD hlD hA hB hk hk4 k4 kW hlen hln hlk HM
        go_wp2_with fail
        go_loop [20] (fun i => ∃ p : Nat, p ≤ q ∧ i = .int .i64 p) (fun i => q - (intOf i).toNat)
        case atStart => exact ⟨0, Nat.zero_le _, rfl⟩
        case round =>
          obtain ⟨p, hp, rfl⟩ := hrel
          by_cases hlt2 : p < q
          · obtain ⟨hA4, hB4, hD, hlD⟩ := HD.out
            obtain ⟨xb, xo, e1, hc⟩ := (H0.out.kept k04.out).at hlt2
            subst e1
            obtain ⟨r, hr, _, _⟩ := lastI_has s q p hlt2
            obtain ⟨x, hx⟩ : ∃ x, x = s p := ⟨_, rfl⟩
            rw [← hx] at hc hr
            have l1 := run_lookup_assoc strKey (P := Tryz.prog) Tryz.underlying41 Tryz.underlying9 w4 hA4 x _ (zeroAny w4) false
            have l2 := run_lookup_assoc strKey (P := Tryz.prog) Tryz.underlying50 Tryz.underlying9 w4 hB4 x _ (zeroInt w4) false
            rw [lkp_mapN, hr] at l1 l2
            have qr : ((r : Int) != (r : Int)) = false := by simp
            by_cases ex : x = key
            · subst ex
              have qe := beq_yes x
              simp only [strKey, Bool.false_eq_true, if_false, Option.map_some, Option.getD_some] at l1 l2
              clear hx hr hA4 hB4 hD hlD
              go_wp2
              go_round
              case rel => exact ⟨p + 1, by omega, by go_num⟩
              case measure => simp [intOf]; omega
            · have l3 := run_lookup_assoc strKey (P := Tryz.prog) Tryz.underlying41 Tryz.underlying9 w4 hD x _ (zeroAny w4) false
              rw [hlD x, if_neg ex, lkp_mapN, hr] at l3
              have qe := beq_no ex
              simp only [strKey, Bool.false_eq_true, if_false, Option.map_some, Option.getD_some] at l1 l2 l3
              clear hx hr hA4 hB4 hD hlD ex
              go_wp2
              go_round
              case rel => exact ⟨p + 1, by omega, by go_num⟩
              case measure => simp [intOf]; omega
          · go_wp2
            go_ret
            exact ⟨rfl, k04.out⟩
end Go.Proofs.YtlchcilkdenjeaaGreatDoor
