import Derived.Test.Qxb6616617aStrs
namespace Go.Proofs.Qxb6616617a
open Go.RowKit

set_option maxHeartbeats 1000000 in
theorem addStrs_pos (t : Int) (b o n q : Nat) (xs : List ByteArray) (w : World) (hn : n ≤ 65536) (hx : xs.length = n) (hc : ∀ j, j < n → w.cell? ⟨b, o + j, none⟩ = some (.string (nth xs j))) (h0 : 0 ≤ t) (h1 : t ≤ 1048592) :
    Calls Try.prog 15 #[.int .i64 t, .slice (some ⟨b, o, none⟩) n q] w fun e w' => (∃ r : Int, e = .returned (.int .i64 r) ∧ 0 ≤ r ∧ r ≤ 1048592) ∧ w' = w := by
  have HC := hidMk hc
  clear hc
  go_enter Try.func15, Try.ntmps15
  go_wp2
  go_loop [0, 5] (fun a i => ∃ (r : Int) (k : Nat), a = .int .i64 r ∧ i = .int .i64 k ∧ k ≤ n ∧ 0 ≤ r ∧ r ≤ 1048592) (fun _ i => n - (intOf i).toNat)
  case atStart => exact ⟨t, 0, rfl, rfl, by omega, h0, h1⟩
  case round =>
    obtain ⟨r, k, rfl, rfl, hk, r0, r1⟩ := hrel
    by_cases hlt : k < n
    · have k0 : (0 : Int) ≤ (k : Int) := by omega
      have k1 : (k : Int) < (n : Int) := by omega
      have c0 := HC.out k hlt
      go_wp2_with fail
      refine (addStr_any _ _ _ r0 r1).mono ?_
      rintro e w' ⟨⟨z, rfl, z0, z1⟩, hw⟩
      have hw2 := hw.symm
      subst hw2
      clear hw
      by_cases hz : (1048576 : Int) < z
      · have hd : decide ((1048576 : Int) < z) = true := by simpa using hz
        go_wp2_with fail
        go_ret
        exact ⟨⟨_, rfl, by omega, by omega⟩, rfl⟩
      · have hd : decide ((1048576 : Int) < z) = false := by simpa using hz
        have z2 : z ≤ 1048576 := by omega
        clear hz
        go_wp2_with fail
        go_round
        case rel => exact ⟨z + 16, k + 1, rfl, by go_num, by omega, by omega, by omega⟩
        case measure => simp [intOf]; omega
    · have hkn : k = n := by omega
      subst hkn
      go_wp2_with fail
      go_ret
      exact ⟨⟨_, rfl, by omega, by omega⟩, rfl⟩

set_option maxHeartbeats 400000 in
theorem addStrs_zero (t : Int) (a : Option Addr) (q : Nat) (w : World) (h0 : 0 ≤ t) (h1 : t ≤ 1048592) :
    Calls Try.prog 15 #[.int .i64 t, .slice a 0 q] w fun e w' => (∃ r : Int, e = .returned (.int .i64 r) ∧ 0 ≤ r ∧ r ≤ 1048592) ∧ w' = w := by
  go_enter Try.func15, Try.ntmps15
  go_wp2
  go_loop [0, 5] (fun a i => a = .int .i64 t ∧ i = .int .i64 0) (fun _ _ => 0)
  case atStart => exact ⟨rfl, rfl⟩
  case round =>
    obtain ⟨rfl, rfl⟩ := hrel
    go_wp2_with fail
    go_ret
    exact ⟨⟨_, rfl, by omega, by omega⟩, rfl⟩

theorem addStrs_any (t : Int) (a : Option Addr) (q : Nat) (xs : List ByteArray) (w : World) (hn : xs.length ≤ 65536) (hc : StrRow w a xs) (h0 : 0 ≤ t) (h1 : t ≤ 1048592) :
    Calls Try.prog 15 #[.int .i64 t, .slice a xs.length q] w fun e w' => (∃ r : Int, e = .returned (.int .i64 r) ∧ 0 ≤ r ∧ r ≤ 1048592) ∧ w' = w := by
  rcases Nat.eq_zero_or_pos xs.length with h | h
  · rw [h]; exact addStrs_zero t a q w h0 h1
  · obtain ⟨b, o, rfl, k⟩ := hc h
    exact addStrs_pos t b o xs.length q xs w hn rfl k h0 h1

set_option maxHeartbeats 1000000 in
theorem firstIndex_pos (b o n q : Nat) (xs : List ByteArray) (x : ByteArray) (w : World) (hn : n ≤ 1048576) (hx : xs.length = n) (hc : ∀ j, j < n → w.cell? ⟨b, o + j, none⟩ = some (.string (nth xs j))) :
    Calls Try.prog 18 #[.slice (some ⟨b, o, none⟩) n q, .string x] w fun e w' => e = .returned (.int .i64 (ixInt (ix x xs))) ∧ w' = w := by
  have HC := hidMk hc
  have HX := hidMk hx
  clear hc hx
  go_enter Try.func18, Try.ntmps18
  go_wp2
  go_loop [5] (fun i => ∃ k : Nat, i = .int .i64 k ∧ k ≤ n ∧ Hid (∀ j, j < k → nth xs j ≠ x)) (fun i => n - (intOf i).toNat)
  case atStart => exact ⟨0, rfl, by omega, hidMk (fun j hj => by omega)⟩
  case round =>
    obtain ⟨k, rfl, hk, hno⟩ := hrel
    by_cases hlt : k < n
    · have k0 : (0 : Int) ≤ (k : Int) := by omega
      have k1 : (k : Int) < (n : Int) := by omega
      obtain ⟨y, hy⟩ : ∃ y, nth xs k = y := ⟨_, rfl⟩
      have c0 := HC.out k hlt
      rw [hy] at c0
      by_cases hq : y = x
      · have H : Hid (ix x xs = some k) := hidMk (ix_of (by rw [HX.out]; exact hlt) (hy.trans hq) hno.out)
        have hb := same_yes hq
        clear hq hy
        go_wp2_with fail
        go_ret
        exact ⟨by rw [H.out]; rfl, rfl⟩
      · have hb := same_no hq
        have hno' : Hid (∀ j, j < k + 1 → nth xs j ≠ x) := hidMk (fun j hj => by
          rcases Nat.lt_succ_iff_lt_or_eq.1 hj with h | h
          · exact hno.out j h
          · subst h; rw [hy]; exact hq)
        clear hq hy
        go_wp2_with fail
        go_round
        case rel => exact ⟨k + 1, by go_num, by omega, hno'⟩
        case measure => simp [intOf]; omega
    · have hkn : k = n := by omega
      subst hkn
      have H : Hid (ix x xs = none) := hidMk (ix_none (fun j hj => hno.out j (by rw [← HX.out]; exact hj)))
      go_wp2_with fail
      go_ret
      exact ⟨by rw [H.out]; rfl, rfl⟩

set_option maxHeartbeats 400000 in
theorem firstIndex_zero (a : Option Addr) (q : Nat) (x : ByteArray) (w : World) :
    Calls Try.prog 18 #[.slice a 0 q, .string x] w fun e w' => e = .returned (.int .i64 (-1)) ∧ w' = w := by
  go_enter Try.func18, Try.ntmps18
  go_wp2
  go_loop [5] (fun i => i = .int .i64 0) (fun _ => 0)
  case atStart => exact rfl
  case round =>
    obtain rfl := hrel
    go_wp2_with fail
    go_ret
    exact ⟨rfl, rfl⟩

theorem firstIndex_any (a : Option Addr) (q : Nat) (xs : List ByteArray) (x : ByteArray) (w : World) (hn : xs.length ≤ 1048576) (hc : StrRow w a xs) :
    Calls Try.prog 18 #[.slice a xs.length q, .string x] w fun e w' => e = .returned (.int .i64 (ixInt (ix x xs))) ∧ w' = w := by
  rcases Nat.eq_zero_or_pos xs.length with h | h
  · have : xs = [] := List.eq_nil_of_length_eq_zero h
    subst this
    exact firstIndex_zero a q x w
  · obtain ⟨b, o, rfl, k⟩ := hc h
    exact firstIndex_pos b o xs.length q xs x w hn rfl k
end Go.Proofs.Qxb6616617a
