/- ZZQueryToIndexKey. -/
import Derived.Test.YticjhbklcpoonaaGreatDoorKto
import Derived.Stop.Asserts
namespace Go.Proofs.YticjhbklcpoonaaGreatDoor
open Go.RowKit Go.Gq
set_option maxRecDepth 100000
def KOut.tup : KOut → Value
  | .none => .tuple #[.bool true, .string ⟨#[]⟩, .bool false, .int .i64 0, .bool false]
  | .str t => .tuple #[.bool false, .string t, .bool true, .int .i64 0, .bool false]
  | .int z => .tuple #[.bool false, .string ⟨#[]⟩, .bool false, .int .i64 z, .bool true]
  | .other => .tuple #[.bool false, .string ⟨#[]⟩, .bool false, .int .i64 0, .bool false]
theorem zzQk_ok (q : Value) (K : KOut) (w : World) (h : Calls Tryz.prog 45 #[q] w (KeyAns K w)) :
    Calls Tryz.prog 12 #[q] w fun e x => e = .returned K.tup ∧ Kept w x := by
  have H := Lib.hid h
  clear h
  go_enter Tryz.func12, Tryz.ntmps12
  go_wp2_with fail
  refine H.out.mono ?_
  rintro e w1 ⟨v, rfl, hv, hk⟩
  have K1 := Lib.hid hk
  clear hk H
  cases K with
  | none =>
    obtain rfl := hv
    go_wp2
    exact bodyPost_ret (v := KOut.none.tup) (by simp [results, Tryz.results12, go_sem, KOut.tup]) rfl ⟨rfl, K1.out⟩
  | str t =>
    obtain rfl := hv
    go_wp2
    exact bodyPost_ret (v := (KOut.str t).tup) (by simp [results, Tryz.results12, go_sem, KOut.tup]) rfl ⟨rfl, K1.out⟩
  | int z =>
    obtain rfl := hv
    go_wp2
    exact bodyPost_ret (v := (KOut.int z).tup) (by simp [results, Tryz.results12, go_sem, KOut.tup]) rfl ⟨rfl, K1.out⟩
  | other =>
    rcases hv with ⟨b, rfl⟩ | ⟨a, rfl⟩
    · go_wp2
      exact bodyPost_ret (v := KOut.other.tup) (by simp [results, Tryz.results12, go_sem, KOut.tup]) rfl ⟨rfl, K1.out⟩
    · go_wp2
      exact bodyPost_ret (v := KOut.other.tup) (by simp [results, Tryz.results12, go_sem, KOut.tup]) rfl ⟨rfl, K1.out⟩
end Go.Proofs.YticjhbklcpoonaaGreatDoor
