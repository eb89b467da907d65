import Derived.Test.Qxb6616435aRows
import Derived.WalkKit
import Derived.WalkSpells
import Derived.Laws.BitsAllLaws
import Derived.Laws.ShiftsVarLaws
namespace Go.Proofs.Qxb6616435a
open Go.RowKit

/-! ### The plain part: the bit of a mode in a uint16 -/
/-- The bit of number 'm' in a uint16, as the walk spells it ('1 << m'). -/
theorem bit_eq (m : Int) (hm0 : 0 ≤ m) : IntKind.u16.wrap (2 ^ min m.toNat 16) = if 16 ≤ m then 0 else 2 ^ m.toNat := by
  rw [IntKind.wrap_u16]; exact u16_shl_one_var m hm0

theorem bit_nat (m : Int) (hm0 : 0 ≤ m) : ∃ b : Nat, IntKind.u16.wrap (2 ^ min m.toNat 16) = (b : Int) ∧ b < 65536 ∧ b = if 16 ≤ m.toNat then 0 else 2 ^ m.toNat := by
  rw [bit_eq m hm0]
  by_cases h : 16 ≤ m
  · rw [if_pos h]; exact ⟨0, rfl, by omega, by rw [if_pos (by omega)]⟩
  · rw [if_neg h]
    have hlt : m.toNat < 16 := by omega
    refine ⟨2 ^ m.toNat, by simp, ?_, by rw [if_neg (by omega)]⟩
    exact Nat.pow_lt_pow_of_lt (by decide : 1 < 2) hlt

theorem testBit_bit (m i : Nat) : (if 16 ≤ m then 0 else 2 ^ m : Nat).testBit i = (decide (m < 16) && decide (m = i)) := by
  by_cases h : 16 ≤ m
  · rw [if_pos h]; simp; omega
  · rw [if_neg h, Nat.testBit_two_pow]; simp; omega

theorem and_bit_zero (s m : Nat) (hs : s < 65536) : (s &&& (if 16 ≤ m then 0 else 2 ^ m) = 0) ↔ s.testBit m = false := by
  by_cases h : 16 ≤ m
  · rw [if_pos h]
    have : s.testBit m = false := Nat.testBit_lt_two_pow (Nat.lt_of_lt_of_le hs (Nat.pow_le_pow_right (n := 2) (by decide) h : 2 ^ 16 ≤ 2 ^ m))
    simp [this]
  · rw [if_neg h, nat_bit]
    have hp : 0 < 2 ^ m := Nat.two_pow_pos _
    have h2 : s / 2 ^ m % 2 = 0 ∨ s / 2 ^ m % 2 = 1 := by omega
    rw [Nat.testBit_eq_decide_div_mod_eq]
    rcases h2 with h2 | h2
    · rw [h2]; simp
    · rw [h2]; simp

theorem has_plain (s m : Int) (hs0 : 0 ≤ s) (hs1 : s < 65536) (hm0 : 0 ≤ m) :
    (bits BinOp.and IntKind.u16 s (IntKind.u16.wrap (2 ^ min m.toNat 16)) != 0) = s.toNat.testBit m.toNat := by
  obtain ⟨b, hb, hlt, hbe⟩ := bit_nat m hm0
  rw [hb, u16_and s b hs0 hs1 (by omega) (by omega), Int.toNat_natCast, hbe]
  have h := and_bit_zero s.toNat m.toNat (by omega)
  rw [Bool.eq_iff_iff, bne_iff_ne]
  constructor
  · intro hne
    cases ht : s.toNat.testBit m.toNat
    · exact absurd (by rw [h.2 ht]; rfl) hne
    · rfl
  · intro ht he
    have := h.1 (by exact_mod_cast he)
    rw [this] at ht; cases ht

/-! ### The walks -/
set_option maxHeartbeats 400000 in
theorem has_any (s m : Int) (w : World) (hs0 : 0 ≤ s) (hs1 : s < 65536) (hm0 : 0 ≤ m) (_hm1 : m < 256) :
    Calls Try.prog 26 #[.int .u16 s, .int .u8 m] w fun e w' => e = .returned (.bool (s.toNat.testBit m.toNat)) ∧ w' = w := by
  have hp := has_plain s m hs0 hs1 hm0
  go_enter Try.func26, Try.ntmps26
  go_wp2
  go_ret
  exact ⟨by rw [← hp]; rfl, rfl⟩

set_option maxHeartbeats 400000 in
theorem zzhas_any (s m : Int) (w : World) (hs0 : 0 ≤ s) (hs1 : s < 65536) (hm0 : 0 ≤ m) (hm1 : m < 256) :
    Calls Try.prog 9 #[.int .u16 s, .int .u8 m] w fun e w' => e = .returned (.bool (s.toNat.testBit m.toNat)) ∧ w' = w := by
  go_enter Try.func9, Try.ntmps9
  go_wp2_with (go_at_call 26; refine (has_any _ _ _ (by omega) (by omega) (by omega) (by omega)).mono ?_; rintro e w' ⟨rfl, rfl⟩)
  go_ret
  exact ⟨rfl, rfl⟩
end Go.Proofs.Qxb6616435a
