/- zzNumText. -/
import Derived.Test.YticjhbklcpoonaaGreatDoorIto
import Derived.Test.YticjhbklcpoonaaGreatDoorKyb
namespace Go.Proofs.YticjhbklcpoonaaGreatDoor
open Go.RowKit Go.Gq
set_option maxRecDepth 100000
/-- A number's text: exact, the decimal text of n; else minus nought, or one of the four. -/
def TextIs (n : Nat) (s : ByteArray) (ex : Bool) : Prop := (ex = true ∧ s.size ≤ 5 ∧ zzDec s.data.toList = some (n : Int)) ∨ (ex = false ∧ s.size ≤ 5 ∧ zzDec s.data.toList = some 0) ∨ (ex = false ∧ Lit4 s)
set_option maxHeartbeats 1000000 in
theorem zzNumText_ok (lit n : Nat) (hl : lit < 256) (hn : n < 65536) (w : World) :
    Calls Tryz.prog 44 #[.int .u8 lit, .int .u16 n] w fun e w' => ∃ s ex, e = .returned (.tuple #[.string s, .bool ex]) ∧ TextIs n s ex ∧ Kept w w' := by
  obtain h | h | h | h | h | ⟨h0, h1, h2, h3, h4⟩ : (lit : Int) % 10 = 0 ∨ (lit : Int) % 10 = 1 ∨ (lit : Int) % 10 = 2 ∨ (lit : Int) % 10 = 3 ∨ (lit : Int) % 10 = 4 ∨ (((lit : Int) % 10 == 0) = false ∧ ((lit : Int) % 10 == 1) = false ∧ ((lit : Int) % 10 == 2) = false ∧ ((lit : Int) % 10 == 3) = false ∧ ((lit : Int) % 10 == 4) = false) := by
    simp only [beq_eq_false_iff_ne, ne_eq]; omega
  · have b0 : ((lit : Int) % 10 == 0) = true := by rw [h]; rfl
    clear h
    go_enter Tryz.func44, Tryz.ntmps44
    go_wp2
    exact bodyPost_ret (v := .tuple #[.string t15, .bool false]) (by simp [results, Tryz.results44, go_sem, t15]) rfl ⟨_, _, rfl, .inr (.inr ⟨rfl, .inl rfl⟩), Below.refl _ _⟩
  · have b0 : ((lit : Int) % 10 == 0) = false := by rw [h]; rfl
    have b1 : ((lit : Int) % 10 == 1) = true := by rw [h]; rfl
    clear h
    go_enter Tryz.func44, Tryz.ntmps44
    go_wp2
    exact bodyPost_ret (v := .tuple #[.string t1e3, .bool false]) (by simp [results, Tryz.results44, go_sem, t1e3]) rfl ⟨_, _, rfl, .inr (.inr ⟨rfl, .inr (.inl rfl)⟩), Below.refl _ _⟩
  · have b0 : ((lit : Int) % 10 == 0) = false := by rw [h]; rfl
    have b1 : ((lit : Int) % 10 == 1) = false := by rw [h]; rfl
    have b2 : ((lit : Int) % 10 == 2) = true := by rw [h]; rfl
    clear h
    go_enter Tryz.func44, Tryz.ntmps44
    go_wp2
    exact bodyPost_ret (v := .tuple #[.string t1e1000, .bool false]) (by simp [results, Tryz.results44, go_sem, t1e1000]) rfl ⟨_, _, rfl, .inr (.inr ⟨rfl, .inr (.inr (.inl rfl))⟩), Below.refl _ _⟩
  · have b0 : ((lit : Int) % 10 == 0) = false := by rw [h]; rfl
    have b1 : ((lit : Int) % 10 == 1) = false := by rw [h]; rfl
    have b2 : ((lit : Int) % 10 == 2) = false := by rw [h]; rfl
    have b3 : ((lit : Int) % 10 == 3) = true := by rw [h]; rfl
    clear h
    go_enter Tryz.func44, Tryz.ntmps44
    go_wp2
    exact bodyPost_ret (v := .tuple #[.string ⟨#[45, 48]⟩, .bool false]) (by simp [results, Tryz.results44, go_sem]) rfl ⟨_, _, rfl, .inr (.inl ⟨rfl, by decide, by decide⟩), Below.refl _ _⟩
  · have b0 : ((lit : Int) % 10 == 0) = false := by rw [h]; rfl
    have b1 : ((lit : Int) % 10 == 1) = false := by rw [h]; rfl
    have b2 : ((lit : Int) % 10 == 2) = false := by rw [h]; rfl
    have b3 : ((lit : Int) % 10 == 3) = false := by rw [h]; rfl
    have b4 : ((lit : Int) % 10 == 4) = true := by rw [h]; rfl
    clear h
    go_enter Tryz.func44, Tryz.ntmps44
    go_wp2
    exact bodyPost_ret (v := .tuple #[.string t99, .bool false]) (by simp [results, Tryz.results44, go_sem, t99]) rfl ⟨_, _, rfl, .inr (.inr ⟨rfl, .inr (.inr (.inr rfl))⟩), Below.refl _ _⟩
  · go_enter Tryz.func44, Tryz.ntmps44
    go_wp2_with fail
    refine (zzItoa_ok n hn w).mono ?_
    rintro e w1 ⟨s, rfl, hs, hd, hk⟩
    have K := Lib.hid (And.intro hs (And.intro hd hk))
    clear hs hd hk
    go_wp2
    exact bodyPost_ret (v := .tuple #[.string s, .bool true]) (by simp [results, Tryz.results44, go_sem]) rfl ⟨_, _, rfl, .inl ⟨rfl, K.out.1, K.out.2.1⟩, K.out.2.2⟩
end Go.Proofs.YticjhbklcpoonaaGreatDoor
