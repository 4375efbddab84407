/- The contract of ZZsetpath, with either allocator. -/
import Derived.Test.YtdhgaogjdjhokaaGreatDoorPlumbc
import Derived.Test.YtdhgaogjdjhokaaGreatDoorPlumbd
namespace Go.Proofs.YtdhgaogjdjhokaaGreatDoor
open Go.RowKit Go.Gq
theorem ZZsetpath_any (kind : Int) (a0 : Option Addr) (n0 c0 : Nat) (a1 : Option Addr) (n1 c1 : Nat) (xs : List Int) (ss : List ByteArray) (pkind idx : Int) (key : ByteArray) (n : Int) (ub : Bool) (w : World) (h0 : Rd w a0 n0 (vi xs)) (h1 : Rd w a1 n1 (vs ss)) (hn : n0 ≤ 65536) (hn1 : n1 ≤ 65536) (h2 : kind = 2 → n1 = n0)
    (hi0 : -9223372036854775808 ≤ idx) (hcap : pkind = 1 → ¬ (65536 ≤ idx ∧ idx < 536870912)) :
    Calls Tryz.prog 17 #[.int .i64 kind, .slice a0 n0 c0, .slice a1 n1 c1, .int .i64 pkind, .int .i64 idx, .string key, .int .i64 n, .bool ub] w (TwoViews ss n1 (docOf kind n0 xs ss) pkind idx key n w) := by
  cases ub with
  | true => exact ZZsetpath_t kind a0 n0 c0 a1 n1 c1 xs ss pkind idx key n w h0 h1 hn hn1 h2 hi0 hcap
  | false => exact ZZsetpath_f kind a0 n0 c0 a1 n1 c1 xs ss pkind idx key n w h0 h1 hn hn1 h2 hi0 hcap
end Go.Proofs.YtdhgaogjdjhokaaGreatDoor
