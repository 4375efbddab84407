/- The walk of FnQueryToIndexKeyCaseTable. -/
import Derived.Test.YticjhbklcpoonaaGreatDoorKsr
import Derived.Test.YticjhbklcpoonaaGreatDoorSufh
namespace Go.Proofs.YticjhbklcpoonaaGreatDoor
open Go.RowKit Go.Gq
set_option maxRecDepth 100000
def BytesK (text : ByteArray) (w : World) (e : Ending) (w' : World) : Prop := ∃ b, e = .returned (.bool b) ∧ (b = true → text.size ≤ 1048576) ∧ w = w'
theorem zzBytes_FnQueryToIndexKeyCaseTable_any (typ lit n : Int) (text : ByteArray) (interp neg binary : Bool) (w : World) (m0 : text.size ≤ 9223372036854775807) :
    Calls Tryz.prog 10 #[.int .u8 typ, .int .u8 lit, .string text, .int .u16 n, .bool interp, .bool neg, .bool binary] w (BytesK text w) := by
  by_cases g0 : text.size ≤ 1048576
  · go_enter Tryz.func10, Tryz.ntmps10
    go_wp2
    go_ret
    exact ⟨true, rfl, fun _ => g0, rfl⟩
  · go_enter Tryz.func10, Tryz.ntmps10
    go_wp2
    go_ret
    exact ⟨false, rfl, (fun h => by cases h), rfl⟩
set_option maxHeartbeats 4000000 in
theorem FnQueryToIndexKeyCaseTable_walk (typ lit n : Int) (text : ByteArray) (interp neg binary : Bool) (w : World) (ht : 0 ≤ typ ∧ typ < 256) (hl : 0 ≤ lit ∧ lit < 256) (hn : 0 ≤ n ∧ n < 65536) (m0 : text.size ≤ 9223372036854775807) (G : Gl w) :
    Calls Tryz.prog 3 #[.int .u8 typ, .int .u8 lit, .string text, .int .u16 n, .bool interp, .bool neg, .bool binary] w (TrueKept w) := by
  obtain ⟨typ, rfl⟩ := Int.eq_ofNat_of_zero_le ht.1
  obtain ⟨lit, rfl⟩ := Int.eq_ofNat_of_zero_le hl.1
  obtain ⟨n, rfl⟩ := Int.eq_ofNat_of_zero_le hn.1
  have HK := zzKeyStart_ok typ lit n text interp neg binary (by omega) (by omega) (by omega) w
  have HKS := Lib.hid HK
  have HG := Lib.hid G
  have HZ := zzBytes_FnQueryToIndexKeyCaseTable_any typ lit n text interp neg binary w m0
  clear HK G ht hl hn
  go_enter Tryz.func3, Tryz.ntmps3
  go_wp2_with fail
  refine HZ.mono ?_
  rintro e w1 ⟨b, rfl, hb, rfl⟩
  clear HZ
  cases b with
  | false =>
    clear hb
    go_wp2
    go_ret
    exact ⟨rfl, Below.refl _ _⟩
  | true =>
  have g0 : text.size ≤ 1048576 := hb rfl
  clear hb
  go_wp2_with fail
  refine HKS.out.mono ?_
  rintro e w1 ⟨q, cl, wa, K, rfl, hA, hR, hk⟩
  clear HKS
  have Hcall := Lib.hid (zzQk_ok (.pointer (some ⟨q, 0, none⟩)) K w1 (hA w1 (Below.refl _ _) (HG.out.kept hk)))
  have HR := Lib.hid (And.intro hR hk)
  clear hA hR hk HG
  go_wp2_with fail
  refine Hcall.out.mono ?_
  rintro e w2 ⟨rfl, hk2⟩
  have HK2 := Lib.hid (HR.out.2.trans hk2)
  clear hk2 Hcall
  obtain ⟨hR, _⟩ := HR.out
  clear HR
  have qb := beq_yes text
  rcases hR with ⟨rfl, rfl⟩ | ⟨rfl, rfl⟩ | ⟨rfl, rfl | rfl⟩ | ⟨rfl, rfl⟩
  all_goals simp only [KOut.tup]
  all_goals
    go_wp2
    go_ret
    exact ⟨rfl, HK2.out⟩
end Go.Proofs.YticjhbklcpoonaaGreatDoor
