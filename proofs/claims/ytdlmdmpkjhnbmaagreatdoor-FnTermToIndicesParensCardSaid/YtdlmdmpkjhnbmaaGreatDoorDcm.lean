/- The laws' own reader of decimal literals. -/
import Derived.Test.YtdlmdmpkjhnbmaaGreatDoorNum
namespace Go.Proofs.YtdlmdmpkjhnbmaaGreatDoor
open Go.RowKit Go.Gq
set_option maxRecDepth 100000
def SomeBool (w : World) (e : Ending) (w' : World) : Prop := ∃ b, e = .returned (.bool b) ∧ w = w'
def DecAns (s : ByteArray) (w : World) (e : Ending) (w' : World) : Prop := ∃ v b, e = .returned (.tuple #[.int .i64 v, .bool b]) ∧ (b = true → zzDec s.data.toList = some v) ∧ w = w'
theorem zzDec_neg (s : ByteArray) (h0 : 0 < s.size) (h : (s[0]'h0).toNat = 45) (h1 : 1 ≤ s.size - 1) (h2 : s.size - 1 ≤ 18) {n : Nat} (hd : digs 0 (s.data.toList.drop 1) = some n) : zzDec s.data.toList = some (-(n : Int)) := by
  have hl : s.data.toList.length = s.size := Array.length_toList
  have he : s.data.toList[0]? = some (s[0]'h0) := by rw [Array.getElem?_toList]; exact Array.getElem?_eq_getElem h0
  generalize s.data.toList = l at *
  cases l with
  | nil => simp at he
  | cons c r =>
    simp only [List.getElem?_cons_zero, Option.some.injEq] at he
    simp only [List.length_cons] at hl
    simp only [List.drop_succ_cons, List.drop_zero] at hd
    simp only [zzDec]
    rw [if_pos (by rw [he]; exact h), if_pos ⟨by omega, by omega⟩, hd]
    rfl
theorem zzDec_pos (s : ByteArray) (h0 : 0 < s.size) (h : ¬ (s[0]'h0).toNat = 45) (_h1 : 1 ≤ s.size - 0) (h2 : s.size - 0 ≤ 18) {n : Nat} (hd : digs 0 (s.data.toList.drop 0) = some n) : zzDec s.data.toList = some (n : Int) := by
  have hl : s.data.toList.length = s.size := Array.length_toList
  have he : s.data.toList[0]? = some (s[0]'h0) := by rw [Array.getElem?_toList]; exact Array.getElem?_eq_getElem h0
  generalize s.data.toList = l at *
  cases l with
  | nil => simp at he
  | cons c r =>
    simp only [List.getElem?_cons_zero, Option.some.injEq] at he
    simp only [List.drop_zero] at hd
    simp only [zzDec]
    rw [if_neg (by rw [he]; exact h), if_pos (by omega), hd]
    rfl
set_option maxHeartbeats 1000000 in
theorem zzDecimal_any (s : ByteArray) (w : World) (hs : s.size ≤ 9223372036854775807) :
    Calls Tryz.prog 21 #[.string s] w (DecAns s w) := by
  by_cases h0 : 0 < s.size
  rotate_left
  · go_enter Tryz.func21, Tryz.ntmps21
    go_wp2
    exact bodyPost_ret (v := .tuple #[.int .i64 0, .bool false]) (by simp [results, Tryz.results21, go_sem]) rfl ⟨_, _, rfl, (fun h => by cases h), rfl⟩
  by_cases h45 : (s[0]'h0).toNat = 45
  · have q45 : ((s[0]'h0).toNat : Int) = 45 := by omega
    by_cases hl : 1 ≤ s.size - 1 ∧ s.size - 1 ≤ 18
    rotate_left
    · have hl1 : ¬ (((1 : Int) ≤ (s.size : Int) - 1) ∧ ((s.size : Int) - 1 ≤ 18)) := by omega
      go_enter Tryz.func21, Tryz.ntmps21
      go_wp2
      all_goals
        exact bodyPost_ret (v := .tuple #[.int .i64 0, .bool false]) (by simp [results, Tryz.results21, go_sem]) rfl ⟨_, _, rfl, (fun h => by cases h), rfl⟩
    obtain ⟨hl1, hl2⟩ := hl
    have hR : Hid ((s.data.toList.drop 1).length = s.size - 1) := by show _ = s.data.size - 1; rw [List.length_drop, Array.length_toList]
    go_enter Tryz.func21, Tryz.ntmps21
    go_wp2
    go_loop [5, 6, 7] (fun i v _ => ∃ (k n : Nat), 1 ≤ k ∧ k ≤ s.size ∧ i = .int .i64 k ∧ v = .int .i64 n ∧ Hid (digs 0 ((s.data.toList.drop 1).take (k - 1)) = some n)) (fun i _ _ => s.size - (intOf i).toNat)
    case atStart => exact ⟨1, 0, Nat.le_refl _, by omega, rfl, rfl, rfl⟩
    case round =>
      obtain ⟨k, n, hk0, hk1, rfl, rfl, hd⟩ := hrel
      by_cases hlt : k < s.size
      · have hn : n < 100000000000000000 := by
          have h1 := digs_lt _ 0 0 n (by decide) hd.out
          have h2 := hR.out
          have h3 := pow17 (k := 0 + ((s.data.toList.drop 1).take (k - 1)).length) (by rw [List.length_take]; omega)
          omega
        have hget : (s.data.toList.drop 1)[k - 1]? = some (s[k]'hlt) := by
          rw [List.getElem?_drop, show 1 + (k - 1) = k by omega, Array.getElem?_toList]
          exact Array.getElem?_eq_getElem hlt
        by_cases d1 : (48 : Int) ≤ ((s[k]'hlt).toNat : Int)
        rotate_left
        · clear hget
          go_wp2
          exact bodyPost_ret (v := .tuple #[.int .i64 0, .bool false]) (by simp [results, Tryz.results21, go_sem]) rfl ⟨_, _, rfl, (fun h => by cases h), rfl⟩
        by_cases d2 : ((s[k]'hlt).toNat : Int) ≤ (57 : Int)
        rotate_left
        · clear hget
          go_wp2
          exact bodyPost_ret (v := .tuple #[.int .i64 0, .bool false]) (by simp [results, Tryz.results21, go_sem]) rfl ⟨_, _, rfl, (fun h => by cases h), rfl⟩
        have HN := digs_take _ (k - 1) 0 n _ hd.out hget ⟨by omega, by omega⟩
        rw [show k - 1 + 1 = k + 1 - 1 by omega] at HN
        have HN2 := Lib.hid HN
        clear hget hd HN
        go_wp2
        go_round
        case rel => exact ⟨k + 1, n * 10 + ((s[k]'hlt).toNat - 48), by omega, by omega, by go_num, by go_num, HN2.out⟩
        case measure => simp [intOf]; omega
      · have hk2 : (s.size : Int) ≤ (k : Int) := by omega
        have HD := hd.out
        rw [List.take_of_length_le (by rw [hR.out]; omega)] at HD
        have HV : Hid (zzDec s.data.toList = some (-(n : Int))) := by
          show zzDec s.data.toList = _
          rw [zzDec_neg s h0 h45 hl1 hl2 HD]
        have hn : n < 1000000000000000000 := by
          have h1 := digs_lt _ 0 0 n (by decide) HD
          have h2 := hR.out
          have h3 := pow18 (k := 0 + (s.data.toList.drop 1).length) (by omega)
          omega
        clear HD hd
        go_wp2
        exact bodyPost_ret (v := .tuple #[.int .i64 (-(n : Int)), .bool true]) (by simp [results, Tryz.results21, go_sem]) rfl ⟨_, _, rfl, (fun _ => HV.out), rfl⟩
  · have q45 : ¬ ((s[0]'h0).toNat : Int) = 45 := by omega
    by_cases hl : 1 ≤ s.size - 0 ∧ s.size - 0 ≤ 18
    rotate_left
    · have hl1 : ¬ (((1 : Int) ≤ (s.size : Int) - 0) ∧ ((s.size : Int) - 0 ≤ 18)) := by omega
      go_enter Tryz.func21, Tryz.ntmps21
      go_wp2
      all_goals
        exact bodyPost_ret (v := .tuple #[.int .i64 0, .bool false]) (by simp [results, Tryz.results21, go_sem]) rfl ⟨_, _, rfl, (fun h => by cases h), rfl⟩
    obtain ⟨hl1, hl2⟩ := hl
    have hR : Hid ((s.data.toList.drop 0).length = s.size - 0) := by show _ = s.data.size - 0; rw [List.length_drop, Array.length_toList]
    go_enter Tryz.func21, Tryz.ntmps21
    go_wp2
    go_loop [5, 6, 7] (fun i v _ => ∃ (k n : Nat), 0 ≤ k ∧ k ≤ s.size ∧ i = .int .i64 k ∧ v = .int .i64 n ∧ Hid (digs 0 ((s.data.toList.drop 0).take (k - 0)) = some n)) (fun i _ _ => s.size - (intOf i).toNat)
    case atStart => exact ⟨0, 0, Nat.le_refl _, by omega, rfl, rfl, rfl⟩
    case round =>
      obtain ⟨k, n, hk0, hk1, rfl, rfl, hd⟩ := hrel
      by_cases hlt : k < s.size
      · have hn : n < 100000000000000000 := by
          have h1 := digs_lt _ 0 0 n (by decide) hd.out
          have h2 := hR.out
          have h3 := pow17 (k := 0 + ((s.data.toList.drop 0).take (k - 0)).length) (by rw [List.length_take]; omega)
          omega
        have hget : (s.data.toList.drop 0)[k - 0]? = some (s[k]'hlt) := by
          rw [List.getElem?_drop, show 0 + (k - 0) = k by omega, Array.getElem?_toList]
          exact Array.getElem?_eq_getElem hlt
        by_cases d1 : (48 : Int) ≤ ((s[k]'hlt).toNat : Int)
        rotate_left
        · clear hget
          go_wp2
          exact bodyPost_ret (v := .tuple #[.int .i64 0, .bool false]) (by simp [results, Tryz.results21, go_sem]) rfl ⟨_, _, rfl, (fun h => by cases h), rfl⟩
        by_cases d2 : ((s[k]'hlt).toNat : Int) ≤ (57 : Int)
        rotate_left
        · clear hget
          go_wp2
          exact bodyPost_ret (v := .tuple #[.int .i64 0, .bool false]) (by simp [results, Tryz.results21, go_sem]) rfl ⟨_, _, rfl, (fun h => by cases h), rfl⟩
        have HN := digs_take _ (k - 0) 0 n _ hd.out hget ⟨by omega, by omega⟩
        rw [show k - 0 + 1 = k + 1 - 0 by omega] at HN
        have HN2 := Lib.hid HN
        clear hget hd HN
        go_wp2
        go_round
        case rel => exact ⟨k + 1, n * 10 + ((s[k]'hlt).toNat - 48), by omega, by omega, by go_num, by go_num, HN2.out⟩
        case measure => simp [intOf]; omega
      · have hk2 : (s.size : Int) ≤ (k : Int) := by omega
        have HD := hd.out
        rw [List.take_of_length_le (by rw [hR.out]; omega)] at HD
        have HV : Hid (zzDec s.data.toList = some ((n : Int))) := by
          show zzDec s.data.toList = _
          rw [zzDec_pos s h0 h45 hl1 hl2 HD]
        have hn : n < 1000000000000000000 := by
          have h1 := digs_lt _ 0 0 n (by decide) HD
          have h2 := hR.out
          have h3 := pow18 (k := 0 + (s.data.toList.drop 0).length) (by omega)
          omega
        clear HD hd
        go_wp2
        exact bodyPost_ret (v := .tuple #[.int .i64 ((n : Int)), .bool true]) (by simp [results, Tryz.results21, go_sem]) rfl ⟨_, _, rfl, (fun _ => HV.out), rfl⟩
end Go.Proofs.YtdlmdmpkjhnbmaaGreatDoor
