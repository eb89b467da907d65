import Derived.Test.Qxb6616617aSums
namespace Go.Proofs.Qxb6616617a
open Go.RowKit

/-- It answers with a bool. -/
def IsBool (e : Ending) : Prop := ∃ b, e = .returned (.bool b)

set_option maxHeartbeats 2000000 in
theorem bytes13_any (a0 a1 : Option Addr) (n0 n1 q0 q1 : Nat) (xs ys : List ByteArray) (nm : ByteArray) (w : World) (h0 : xs.length = n0) (h1 : ys.length = n1) (hc0 : StrRow w a0 xs) (hc1 : StrRow w a1 ys) :
    Calls Try.prog 13 #[.slice a0 n0 q0, .slice a1 n1 q1, .string nm] w fun e w' => IsBool e ∧ w' = w := by
  have HC0 := hidMk hc0
  have HC1 := hidMk hc1
  clear hc0 hc1
  by_cases g0 : (1048576 : Int) < (n0 : Int)
  · have i0 : decide ((1048576 : Int) < (n0 : Int)) = true := by simpa using g0
    go_enter Try.func13, Try.ntmps13
    go_wp2
    go_ret
    exact ⟨⟨_, rfl⟩, rfl⟩
  · have i0 : decide ((1048576 : Int) < (n0 : Int)) = false := by simpa using g0
    have j0 : (n0 : Int) ≤ 1048576 := by omega
    clear g0
    go_enter Try.func13, Try.ntmps13
    go_wp2
    go_loop [7, 8] (fun z i => ∃ (r : Int) (k : Nat), z = .int .i64 r ∧ i = .int .i64 k ∧ k ≤ n0 ∧ 0 ≤ r ∧ r ≤ 1048576) (fun _ i => n0 - (intOf i).toNat)
    case atStart => exact ⟨_, 0, rfl, rfl, by omega, by omega, by omega⟩
    case round =>
      obtain ⟨r, k, rfl, rfl, hk, r0, r1⟩ := hrel
      by_cases hlt : k < n0
      · have k0 : (0 : Int) ≤ (k : Int) := by omega
        have k1 : (k : Int) < (n0 : Int) := by omega
        obtain ⟨b, o, ha, hc⟩ := HC0.out (by omega)
        obtain ⟨y, hy⟩ : ∃ y, nth xs k = y := ⟨_, rfl⟩
        have c0 := hc k (by omega)
        rw [hy] at c0
        clear hc hy
        by_cases g1 : (1048576 : Int) < (y.size : Int)
        · have i1 : decide ((1048576 : Int) < (y.size : Int)) = true := by simpa using g1
          clear g1
          go_wp2
          go_ret
          exact ⟨⟨_, rfl⟩, rfl⟩
        · have i1 : decide ((1048576 : Int) < (y.size : Int)) = false := by simpa using g1
          have j1 : (y.size : Int) ≤ 1048576 := by omega
          clear g1
          by_cases g2 : (1048576 : Int) < r + (y.size : Int)
          · have i2 : decide ((1048576 : Int) < r + (y.size : Int)) = true := by simpa using g2
            clear g2
            go_wp2
            go_ret
            exact ⟨⟨_, rfl⟩, rfl⟩
          · have i2 : decide ((1048576 : Int) < r + (y.size : Int)) = false := by simpa using g2
            clear g2
            go_wp2
            go_round
            case rel => exact ⟨_, k + 1, rfl, by go_num, by omega, by omega, by have := of_decide_eq_false i2; omega⟩
            case measure => simp [intOf]; omega
      · have hkn : k = n0 := by omega
        subst hkn
        clear hlt hk
        by_cases g3 : (1048576 : Int) < (n1 : Int)
        · have i3 : decide ((1048576 : Int) < (n1 : Int)) = true := by simpa using g3
          clear g3
          go_wp2
          go_ret
          exact ⟨⟨_, rfl⟩, rfl⟩
        · have i3 : decide ((1048576 : Int) < (n1 : Int)) = false := by simpa using g3
          have j3 : (n1 : Int) ≤ 1048576 := by omega
          clear g3
          by_cases g4 : (1048576 : Int) < r + (n1 : Int)
          · have i4 : decide ((1048576 : Int) < r + (n1 : Int)) = true := by simpa using g4
            clear g4
            go_wp2
            go_ret
            exact ⟨⟨_, rfl⟩, rfl⟩
          · have i4 : decide ((1048576 : Int) < r + (n1 : Int)) = false := by simpa using g4
            have j4 : r + (n1 : Int) ≤ 1048576 := by omega
            clear g4
            go_wp2
            go_loop [7, 9] (fun z i => ∃ (r : Int) (k : Nat), z = .int .i64 r ∧ i = .int .i64 k ∧ k ≤ n1 ∧ 0 ≤ r ∧ r ≤ 1048576) (fun _ i => n1 - (intOf i).toNat)
            case atStart => exact ⟨_, 0, rfl, rfl, by omega, by omega, j4⟩
            case round =>
              clear i4 j4 r0 r1
              obtain ⟨s, m, rfl, rfl, hm, s0, s1⟩ := hrel
              by_cases hlt : m < n1
              · have k0 : (0 : Int) ≤ (m : Int) := by omega
                have k1 : (m : Int) < (n1 : Int) := by omega
                obtain ⟨b, o, ha, hc⟩ := HC1.out (by omega)
                obtain ⟨y, hy⟩ : ∃ y, nth ys m = y := ⟨_, rfl⟩
                have c0 := hc m (by omega)
                rw [hy] at c0
                clear hc hy
                by_cases g1 : (1048576 : Int) < (y.size : Int)
                · have i1 : decide ((1048576 : Int) < (y.size : Int)) = true := by simpa using g1
                  clear g1
                  go_wp2
                  go_ret
                  exact ⟨⟨_, rfl⟩, rfl⟩
                · have i1 : decide ((1048576 : Int) < (y.size : Int)) = false := by simpa using g1
                  have j1 : (y.size : Int) ≤ 1048576 := by omega
                  clear g1
                  by_cases g2 : (1048576 : Int) < s + (y.size : Int)
                  · have i2 : decide ((1048576 : Int) < s + (y.size : Int)) = true := by simpa using g2
                    clear g2
                    go_wp2
                    go_ret
                    exact ⟨⟨_, rfl⟩, rfl⟩
                  · have i2 : decide ((1048576 : Int) < s + (y.size : Int)) = false := by simpa using g2
                    clear g2
                    go_wp2
                    go_round
                    case rel => exact ⟨_, m + 1, rfl, by go_num, by omega, by omega, by have := of_decide_eq_false i2; omega⟩
                    case measure => simp [intOf]; omega
              · have hkn : m = n1 := by omega
                subst hkn
                clear hlt hm
                by_cases g5 : (1048576 : Int) < (nm.size : Int)
                · have i5 : decide ((1048576 : Int) < (nm.size : Int)) = true := by simpa using g5
                  clear g5
                  go_wp2
                  go_ret
                  exact ⟨⟨_, rfl⟩, rfl⟩
                · have i5 : decide ((1048576 : Int) < (nm.size : Int)) = false := by simpa using g5
                  have j5 : (nm.size : Int) ≤ 1048576 := by omega
                  clear g5
                  by_cases g6 : (1048576 : Int) < s + (nm.size : Int)
                  · have i6 : decide ((1048576 : Int) < s + (nm.size : Int)) = true := by simpa using g6
                    clear g6
                    go_wp2
                    go_ret
                    exact ⟨⟨_, rfl⟩, rfl⟩
                  · have i6 : decide ((1048576 : Int) < s + (nm.size : Int)) = false := by simpa using g6
                    clear g6
                    go_wp2
                    go_ret
                    exact ⟨⟨_, rfl⟩, rfl⟩

set_option maxHeartbeats 2000000 in
theorem bytes19_any (a0 : Option Addr) (n0 q0 : Nat) (xs : List ByteArray) (nm : ByteArray) (p : Int) (w : World) (h0 : xs.length = n0) (hc0 : StrRow w a0 xs) :
    Calls Try.prog 19 #[.slice a0 n0 q0, .string nm, .int .i64 p] w fun e w' => IsBool e ∧ w' = w := by
  have HC0 := hidMk hc0
  clear hc0
  by_cases g0 : (1048576 : Int) < (n0 : Int)
  · have i0 : decide ((1048576 : Int) < (n0 : Int)) = true := by simpa using g0
    go_enter Try.func19, Try.ntmps19
    go_wp2
    go_ret
    exact ⟨⟨_, rfl⟩, rfl⟩
  · have i0 : decide ((1048576 : Int) < (n0 : Int)) = false := by simpa using g0
    have j0 : (n0 : Int) ≤ 1048576 := by omega
    clear g0
    go_enter Try.func19, Try.ntmps19
    go_wp2
    go_loop [7, 8] (fun z i => ∃ (r : Int) (k : Nat), z = .int .i64 r ∧ i = .int .i64 k ∧ k ≤ n0 ∧ 0 ≤ r ∧ r ≤ 1048576) (fun _ i => n0 - (intOf i).toNat)
    case atStart => exact ⟨_, 0, rfl, rfl, by omega, by omega, by omega⟩
    case round =>
      obtain ⟨s, m, rfl, rfl, hm, s0, s1⟩ := hrel
      by_cases hlt : m < n0
      · have k0 : (0 : Int) ≤ (m : Int) := by omega
        have k1 : (m : Int) < (n0 : Int) := by omega
        obtain ⟨b, o, ha, hc⟩ := HC0.out (by omega)
        obtain ⟨y, hy⟩ : ∃ y, nth xs m = y := ⟨_, rfl⟩
        have c0 := hc m (by omega)
        rw [hy] at c0
        clear hc hy
        by_cases g1 : (1048576 : Int) < (y.size : Int)
        · have i1 : decide ((1048576 : Int) < (y.size : Int)) = true := by simpa using g1
          clear g1
          go_wp2
          go_ret
          exact ⟨⟨_, rfl⟩, rfl⟩
        · have i1 : decide ((1048576 : Int) < (y.size : Int)) = false := by simpa using g1
          have j1 : (y.size : Int) ≤ 1048576 := by omega
          clear g1
          by_cases g2 : (1048576 : Int) < s + (y.size : Int)
          · have i2 : decide ((1048576 : Int) < s + (y.size : Int)) = true := by simpa using g2
            clear g2
            go_wp2
            go_ret
            exact ⟨⟨_, rfl⟩, rfl⟩
          · have i2 : decide ((1048576 : Int) < s + (y.size : Int)) = false := by simpa using g2
            clear g2
            go_wp2
            go_round
            case rel => exact ⟨_, m + 1, rfl, by go_num, by omega, by omega, by have := of_decide_eq_false i2; omega⟩
            case measure => simp [intOf]; omega
      · have hkn : m = n0 := by omega
        subst hkn
        clear hlt hm
        by_cases g5 : (1048576 : Int) < (nm.size : Int)
        · have i5 : decide ((1048576 : Int) < (nm.size : Int)) = true := by simpa using g5
          clear g5
          go_wp2
          go_ret
          exact ⟨⟨_, rfl⟩, rfl⟩
        · have i5 : decide ((1048576 : Int) < (nm.size : Int)) = false := by simpa using g5
          have j5 : (nm.size : Int) ≤ 1048576 := by omega
          clear g5
          by_cases g6 : (1048576 : Int) < s + (nm.size : Int)
          · have i6 : decide ((1048576 : Int) < s + (nm.size : Int)) = true := by simpa using g6
            clear g6
            go_wp2
            go_ret
            exact ⟨⟨_, rfl⟩, rfl⟩
          · have i6 : decide ((1048576 : Int) < s + (nm.size : Int)) = false := by simpa using g6
            clear g6
            go_wp2
            go_ret
            exact ⟨⟨_, rfl⟩, rfl⟩
end Go.Proofs.Qxb6616617a
