import Derived.Test.Qxb6616435aHas
namespace Go.Proofs.Qxb6616435a
open Go.RowKit

theorem hidMk {p : Prop} (h : p) : Hid p := h

/-! ### The plain part: union, intersection, difference, toggle, bit by bit -/
theorem or_in (s t : Int) (hs0 : 0 ≤ s) (hs1 : s < 65536) (ht0 : 0 ≤ t) (ht1 : t < 65536) :
    0 ≤ bits .or .u16 s t ∧ bits .or .u16 s t < 65536 ∧ ∀ i, (bits .or .u16 s t).toNat.testBit i = (s.toNat.testBit i || t.toNat.testBit i) := by
  rw [u16_or s t hs0 hs1 ht0 ht1]
  have h : s.toNat ||| t.toNat < 2 ^ 16 := Nat.or_lt_two_pow (by omega) (by omega)
  refine ⟨by omega, by omega, fun i => ?_⟩
  rw [Int.toNat_natCast, Nat.testBit_or]

theorem and_in (s t : Int) (hs0 : 0 ≤ s) (hs1 : s < 65536) (ht0 : 0 ≤ t) (ht1 : t < 65536) :
    0 ≤ bits .and .u16 s t ∧ bits .and .u16 s t < 65536 ∧ ∀ i, (bits .and .u16 s t).toNat.testBit i = (s.toNat.testBit i && t.toNat.testBit i) := by
  rw [u16_and s t hs0 hs1 ht0 ht1]
  have h : s.toNat &&& t.toNat < 2 ^ 16 := Nat.and_lt_two_pow _ (by omega)
  refine ⟨by omega, by omega, fun i => ?_⟩
  rw [Int.toNat_natCast, Nat.testBit_and]

theorem xor_in (s t : Int) (hs0 : 0 ≤ s) (hs1 : s < 65536) (ht0 : 0 ≤ t) (ht1 : t < 65536) :
    0 ≤ bits .xor .u16 s t ∧ bits .xor .u16 s t < 65536 ∧ ∀ i, (bits .xor .u16 s t).toNat.testBit i = (s.toNat.testBit i ^^ t.toNat.testBit i) := by
  rw [u16_xor s t hs0 hs1 ht0 ht1]
  have h : s.toNat ^^^ t.toNat < 2 ^ 16 := Nat.xor_lt_two_pow (by omega) (by omega)
  refine ⟨by omega, by omega, fun i => ?_⟩
  rw [Int.toNat_natCast, Nat.testBit_xor]

theorem andNot_in (s t : Int) (hs0 : 0 ≤ s) (hs1 : s < 65536) (ht0 : 0 ≤ t) (ht1 : t < 65536) :
    0 ≤ bits .andNot .u16 s t ∧ bits .andNot .u16 s t < 65536 ∧ ∀ i, (bits .andNot .u16 s t).toNat.testBit i = (s.toNat.testBit i && !t.toNat.testBit i) := by
  rw [u16_andNot s t hs0 hs1 ht0 ht1]
  have h : s.toNat &&& (65535 - t.toNat) < 2 ^ 16 := Nat.and_lt_two_pow _ (by omega)
  refine ⟨by omega, by omega, fun i => ?_⟩
  have e : 65535 - t.toNat = 2 ^ 16 - (t.toNat + 1) := by omega
  rw [Int.toNat_natCast, Nat.testBit_and, e, Nat.testBit_two_pow_sub_succ (by omega)]
  by_cases hi : i < 16
  · simp [hi]
  · have : s.toNat.testBit i = false := Nat.testBit_lt_two_pow (Nat.lt_of_lt_of_le (by omega : s.toNat < 2 ^ 16) (Nat.pow_le_pow_right (n := 2) (by decide) (by omega : 16 ≤ i)))
    simp [this]

theorem no_high (s : Int) (i : Nat) (hs1 : s < 65536) (hi : 16 ≤ i) : s.toNat.testBit i = false :=
  Nat.testBit_lt_two_pow (Nat.lt_of_lt_of_le (by omega : s.toNat < 2 ^ 16) (Nat.pow_le_pow_right (n := 2) (by decide) hi))

/-- The callee's contract, its answer under a name. -/
theorem zzhas_eq (s m : Int) (b : Bool) (w : World) (hs0 : 0 ≤ s) (hs1 : s < 65536) (hm0 : 0 ≤ m) (hm1 : m < 256) (h : s.toNat.testBit m.toNat = b) :
    Calls Try.prog 9 #[.int .u16 s, .int .u8 m] w fun e w' => e = .returned (.bool b) ∧ w' = w := by
  subst h; exact zzhas_any s m w hs0 hs1 hm0 hm1

set_option maxHeartbeats 1000000 in
theorem algebra_low (s t m : Int) (a c : Bool) (w : World) (hs0 : 0 ≤ s) (hs1 : s < 65536) (ht0 : 0 ≤ t) (ht1 : t < 65536) (hm0 : 0 ≤ m) (hm1 : m < 16)
    (ha : Hid (s.toNat.testBit m.toNat = a)) (hc : Hid (t.toNat.testBit m.toNat = c)) :
    Calls Try.prog 4 #[.int .u16 s, .int .u16 t, .int .u8 m] w fun e w' => e = .returned (.bool true) ∧ w' = w := by
  have hm2 : m < 256 := by omega
  obtain ⟨o0, o1, o2⟩ := or_in s t hs0 hs1 ht0 ht1
  obtain ⟨n0, n1, n2⟩ := and_in s t hs0 hs1 ht0 ht1
  obtain ⟨d0, d1, d2⟩ := andNot_in s t hs0 hs1 ht0 ht1
  have O : Hid ((bits .or .u16 s t).toNat.testBit m.toNat = (a || c)) := hidMk (by rw [o2, ha.out, hc.out])
  have N : Hid ((bits .and .u16 s t).toNat.testBit m.toNat = (a && c)) := hidMk (by rw [n2, ha.out, hc.out])
  have D : Hid ((bits .andNot .u16 s t).toNat.testBit m.toNat = (a && !c)) := hidMk (by rw [d2, ha.out, hc.out])
  obtain ⟨b, hb, hb1, hb2⟩ := bit_nat m hm0
  rw [show min m.toNat 16 = m.toNat from by omega] at hb
  have tb : (b : Int).toNat.testBit m.toNat = true := by rw [Int.toNat_natCast, hb2, testBit_bit]; simp; omega
  obtain ⟨p0, p1, p2⟩ := or_in s b hs0 hs1 (by omega) (by omega)
  obtain ⟨q0, q1, q2⟩ := andNot_in s b hs0 hs1 (by omega) (by omega)
  obtain ⟨x0, x1, x2⟩ := xor_in s b hs0 hs1 (by omega) (by omega)
  rw [← hb] at p0 p1 q0 q1 x0 x1
  have P : Hid ((bits .or .u16 s (IntKind.u16.wrap (2 ^ m.toNat))).toNat.testBit m.toNat = true) := hidMk (by rw [hb, p2, tb]; simp)
  have Q : Hid ((bits .andNot .u16 s (IntKind.u16.wrap (2 ^ m.toNat))).toNat.testBit m.toNat = false) := hidMk (by rw [hb, q2, tb]; simp)
  have X : Hid ((bits .xor .u16 s (IntKind.u16.wrap (2 ^ m.toNat))).toNat.testBit m.toNat = !a) := hidMk (by rw [hb, x2, tb, ha.out]; simp)
  clear o2 n2 d2 p2 q2 x2 tb hb hb1 hb2
  cases a <;> cases c
  all_goals
    go_enter Try.func4, Try.ntmps4
    go_wp2_with fail
    refine (zzhas_eq _ _ _ _ hs0 hs1 hm0 hm2 ha.out).mono ?_
    rintro e w' ⟨rfl, rfl⟩
    go_wp2_with fail
    refine (zzhas_eq _ _ _ _ ht0 ht1 hm0 hm2 hc.out).mono ?_
    rintro e w' ⟨rfl, rfl⟩
    go_wp2_with fail
    refine (zzhas_eq _ _ _ _ o0 o1 hm0 hm2 O.out).mono ?_
    rintro e w' ⟨rfl, rfl⟩
    go_wp2_with fail
    refine (zzhas_eq _ _ _ _ n0 n1 hm0 hm2 N.out).mono ?_
    rintro e w' ⟨rfl, rfl⟩
    go_wp2_with fail
    refine (zzhas_eq _ _ _ _ d0 d1 hm0 hm2 D.out).mono ?_
    rintro e w' ⟨rfl, rfl⟩
    go_wp2_with fail
    refine (zzhas_eq _ _ _ _ p0 p1 hm0 hm2 P.out).mono ?_
    rintro e w' ⟨rfl, rfl⟩
    go_wp2_with fail
    refine (zzhas_eq _ _ _ _ q0 q1 hm0 hm2 Q.out).mono ?_
    rintro e w' ⟨rfl, rfl⟩
    go_wp2_with fail
    refine (zzhas_eq _ _ _ _ x0 x1 hm0 hm2 X.out).mono ?_
    rintro e w' ⟨rfl, rfl⟩
    go_wp2_with fail
    go_ret
    exact ⟨rfl, rfl⟩

set_option maxHeartbeats 1000000 in
theorem algebra_high (s t m : Int) (w : World) (hs0 : 0 ≤ s) (hs1 : s < 65536) (ht0 : 0 ≤ t) (ht1 : t < 65536) (hm0 : 16 ≤ m) (hm2 : m < 256) :
    Calls Try.prog 4 #[.int .u16 s, .int .u16 t, .int .u8 m] w fun e w' => e = .returned (.bool true) ∧ w' = w := by
  have hm1 : 0 ≤ m := by omega
  obtain ⟨o0, o1, r⟩ := or_in s t hs0 hs1 ht0 ht1; clear r
  obtain ⟨n0, n1, r⟩ := and_in s t hs0 hs1 ht0 ht1; clear r
  obtain ⟨d0, d1, r⟩ := andNot_in s t hs0 hs1 ht0 ht1; clear r
  have hi : 16 ≤ m.toNat := by omega
  have no : ∀ x : Int, x < 65536 → x.toNat.testBit m.toNat = false := fun x hx => no_high x _ hx hi
  have NO : Hid (∀ x : Int, x < 65536 → x.toNat.testBit m.toNat = false) := no
  clear no hi
  have hlt : decide (m < 16) = false := by simp; omega
  clear hm0
  go_enter Try.func4, Try.ntmps4
  go_wp2_with fail
  refine (zzhas_eq _ _ _ _ hs0 hs1 hm1 hm2 (NO.out _ hs1)).mono ?_
  rintro e w' ⟨rfl, rfl⟩
  go_wp2_with fail
  refine (zzhas_eq _ _ _ _ ht0 ht1 hm1 hm2 (NO.out _ ht1)).mono ?_
  rintro e w' ⟨rfl, rfl⟩
  go_wp2_with fail
  refine (zzhas_eq _ _ _ _ o0 o1 hm1 hm2 (NO.out _ o1)).mono ?_
  rintro e w' ⟨rfl, rfl⟩
  go_wp2_with fail
  refine (zzhas_eq _ _ _ _ n0 n1 hm1 hm2 (NO.out _ n1)).mono ?_
  rintro e w' ⟨rfl, rfl⟩
  go_wp2_with fail
  refine (zzhas_eq _ _ _ _ d0 d1 hm1 hm2 (NO.out _ d1)).mono ?_
  rintro e w' ⟨rfl, rfl⟩
  go_wp2_with fail
  obtain ⟨p0, p1, r⟩ := or_in s 0 hs0 hs1 (by omega) (by omega); clear r
  refine (zzhas_eq _ _ _ _ p0 p1 hm1 hm2 (NO.out _ p1)).mono ?_
  clear p0 p1
  rintro e w' ⟨rfl, rfl⟩
  go_wp2_with fail
  obtain ⟨q0, q1, r⟩ := andNot_in s 0 hs0 hs1 (by omega) (by omega); clear r
  refine (zzhas_eq _ _ _ _ q0 q1 hm1 hm2 (NO.out _ q1)).mono ?_
  clear q0 q1
  rintro e w' ⟨rfl, rfl⟩
  go_wp2_with fail
  go_ret
  exact ⟨rfl, rfl⟩

theorem algebra_any (s t m : Int) (w : World) (hs0 : 0 ≤ s) (hs1 : s < 65536) (ht0 : 0 ≤ t) (ht1 : t < 65536) (hm0 : 0 ≤ m) (hm2 : m < 256) :
    Calls Try.prog 4 #[.int .u16 s, .int .u16 t, .int .u8 m] w fun e w' => e = .returned (.bool true) ∧ w' = w := by
  by_cases h : m < 16
  · exact algebra_low s t m _ _ w hs0 hs1 ht0 ht1 hm0 h rfl rfl
  · exact algebra_high s t m w hs0 hs1 ht0 ht1 (by omega) hm2
end Go.Proofs.Qxb6616435a
