import Derived.Test.Qxb6616435aAlgebra
namespace Go.Proofs.Qxb6616435a
open Go.RowKit

/-! ### The plain part: the low bits of a set, one more each round -/
/-- The bits of 's' below the place 'k', of at most sixteen. -/
def lowBits (s k : Nat) : Nat := s % 2 ^ min k 16

theorem lowBits_lt (s k : Nat) : lowBits s k < 65536 := by
  unfold lowBits
  have h1 : s % 2 ^ min k 16 < 2 ^ min k 16 := Nat.mod_lt _ (Nat.two_pow_pos _)
  have h2 : (2 : Nat) ^ min k 16 ≤ 2 ^ 16 := Nat.pow_le_pow_right (by decide) (Nat.min_le_right _ _)
  omega

theorem lowBits_bit (s k i : Nat) : (lowBits s k).testBit i = (decide (i < min k 16) && s.testBit i) := by
  unfold lowBits; rw [Nat.testBit_mod_two_pow]

theorem lowBits_all (s : Nat) (h : s < 65536) : lowBits s 256 = s := by
  unfold lowBits; exact Nat.mod_eq_of_lt (by simpa using h)

theorem lowBits_no (s k : Nat) (h : s.testBit k = false) : lowBits s (k + 1) = lowBits s k := by
  apply Nat.eq_of_testBit_eq
  intro i
  rw [lowBits_bit, lowBits_bit]
  by_cases hi : i = k
  · subst hi; simp [h]
  · have : decide (i < min (k + 1) 16) = decide (i < min k 16) := by
      apply decide_eq_decide.2; omega
    rw [this]

theorem lowBits_yes (s k : Nat) (hk : k < 16) (h : s.testBit k = true) :
    bits .or .u16 (lowBits s k : Int) (IntKind.u16.wrap (2 ^ min k 16)) = (lowBits s (k + 1) : Int) := by
  have hl := lowBits_lt s k
  have hp : (2 : Nat) ^ k < 65536 := Nat.pow_lt_pow_of_lt (by decide : 1 < 2) hk
  have e : IntKind.u16.wrap (2 ^ min k 16) = ((2 ^ k : Nat) : Int) := by
    rw [IntKind.wrap_u16, show min k 16 = k from by omega]
    have : ((2 : Int) ^ k) = ((2 ^ k : Nat) : Int) := by simp
    rw [this]
    generalize (2 : Nat) ^ k = q at hp
    omega
  rw [e, u16_or_nat _ _ hl hp]
  congr 1
  apply Nat.eq_of_testBit_eq
  intro i
  rw [Nat.testBit_or, lowBits_bit, lowBits_bit, Nat.testBit_two_pow]
  by_cases hi : i = k
  · subst hi; simp [h]; omega
  · have : decide (i < min (k + 1) 16) = decide (i < min k 16) := by
      apply decide_eq_decide.2; omega
    rw [this]; simp; intro h'; exact absurd h'.symm hi

theorem high_no (s k : Nat) (hs : s < 65536) (h : s.testBit k = true) : k < 16 := by
  rcases Nat.lt_or_ge k 16 with h1 | h1
  · exact h1
  · have := no_high (s : Int) k (by omega) h1
    rw [Int.toNat_natCast] at this
    rw [this] at h; cases h

set_option maxHeartbeats 1000000 in
theorem readsBack_any (s : Nat) (w : World) (hs : s < 65536) :
    Calls Try.prog 3 #[.int .u16 (s : Int)] w fun e w' => e = .returned (.bool true) ∧ w' = w := by
  have hs0 : (0 : Int) ≤ (s : Int) := by omega
  have hs1 : (s : Int) < 65536 := by omega
  go_enter Try.func3, Try.ntmps3
  go_wp2
  go_loop [3, 4] (fun r m => ∃ k : Nat, k ≤ 256 ∧ m = .int .i64 k ∧ r = .int .u16 (lowBits s k)) (fun _ m => 256 - (intOf m).toNat)
  case atStart => exact ⟨0, by omega, rfl, by simp [lowBits, Nat.mod_one]⟩
  case round =>
    obtain ⟨k, hk, rfl, rfl⟩ := hrel
    have hl := lowBits_lt s k
    by_cases hlt : k < 256
    · have hk0 : (0 : Int) ≤ (k : Int) := by omega
      have hk1 : (k : Int) < 256 := by omega
      cases ht : s.testBit k
      · have H : Hid (lowBits s (k + 1) = lowBits s k) := lowBits_no s k ht
        have HT : Hid ((s : Int).toNat.testBit (k : Int).toNat = false) := hidMk (by rw [Int.toNat_natCast, Int.toNat_natCast]; exact ht)
        clear ht
        go_wp2_with fail
        refine (zzhas_eq _ _ _ _ hs0 hs1 hk0 hk1 HT.out).mono ?_
        rintro e w' ⟨rfl, rfl⟩
        go_wp2_with fail
        go_round
        case rel => exact ⟨k + 1, by omega, by go_num, by rw [H.out]⟩
        case measure => simp [intOf]; omega
      · have hk16 := high_no s k hs ht
        have H : Hid (bits .or .u16 (lowBits s k : Int) (IntKind.u16.wrap (2 ^ min k 16)) = (lowBits s (k + 1) : Int)) := lowBits_yes s k hk16 ht
        have HT : Hid ((s : Int).toNat.testBit (k : Int).toNat = true) := hidMk (by rw [Int.toNat_natCast, Int.toNat_natCast]; exact ht)
        have hd : decide ((16 : Int) ≤ (k : Int)) = false := by simp; omega
        clear ht hk16
        go_wp2_with fail
        refine (zzhas_eq _ _ _ _ hs0 hs1 hk0 hk1 HT.out).mono ?_
        rintro e w' ⟨rfl, rfl⟩
        go_wp2_with fail
        go_round
        case rel => exact ⟨k + 1, by omega, by go_num, by rw [← H.out]⟩
        case measure => simp [intOf]; omega
    · have hk2 : k = 256 := by omega
      subst hk2
      have ha : lowBits s 256 = s := lowBits_all s hs
      go_wp2
      go_ret
      exact ⟨rfl, rfl⟩
end Go.Proofs.Qxb6616435a
