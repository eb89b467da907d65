import Derived.Test.Qxb6616617aIns
namespace Go.Proofs.Qxb6616617a
open Go.RowKit

set_option maxRecDepth 100000 in
set_option maxHeartbeats 2000000 in
theorem law6_early (a0 : Option Addr) (n0 q0 : Nat) (xs : List ByteArray) (nm : ByteArray) (p : Int) (w : World) (h0 : xs.length = n0) (hc0 : StrRow w a0 xs) (g : 65536 < n0 ∨ 1048576 < nm.size) :
    Calls Try.prog 6 #[.slice a0 n0 q0, .string nm, .int .i64 p] w fun e w' => e = .returned (.bool true) ∧ Below w.heap.size w w' := by
  have B := hidMk (bytes19_any a0 n0 q0 xs nm p w h0 hc0)
  clear hc0
  by_cases g0 : 65536 < n0
  · have i0 : decide ((65536 : Int) < (n0 : Int)) = true := by simp; omega
    clear g g0
    go_enter Try.func6, Try.ntmps6
    go_wp2_with fail
    refine B.out.mono ?_
    rintro e w' ⟨⟨b, rfl⟩, hw⟩
    have hw2 := hw.symm
    subst hw2
    clear hw
    cases b
    · go_wp2_with fail
      go_ret
      exact ⟨rfl, Below.refl _ _⟩
    · go_wp2_with fail
      go_ret
      exact ⟨rfl, Below.refl _ _⟩
  · have i0 : decide ((65536 : Int) < (n0 : Int)) = false := by simp; omega
    have i1 : decide ((1048576 : Int) < (nm.size : Int)) = true := by simp; omega
    clear g g0
    go_enter Try.func6, Try.ntmps6
    go_wp2_with fail
    refine B.out.mono ?_
    rintro e w' ⟨⟨b, rfl⟩, hw⟩
    have hw2 := hw.symm
    subst hw2
    clear hw
    cases b
    · go_wp2_with fail
      go_ret
      exact ⟨rfl, Below.refl _ _⟩
    · go_wp2_with fail
      go_ret
      exact ⟨rfl, Below.refl _ _⟩

set_option maxRecDepth 100000 in
set_option maxHeartbeats 4000000 in
theorem law6_off (a0 : Option Addr) (n0 q0 : Nat) (xs : List ByteArray) (nm : ByteArray) (p : Int) (w : World) (h0 : xs.length = n0) (hc0 : StrRow w a0 xs)
    (z0 : a0 = none → n0 = 0 ∧ q0 = 0) (g0 : n0 ≤ 65536) (g2 : nm.size ≤ 1048576) (gp : p < 0 ∨ (n0 : Int) < p) :
    Calls Try.prog 6 #[.slice a0 n0 q0, .string nm, .int .i64 p] w fun e w' => e = .returned (.bool true) ∧ Below w.heap.size w w' := by
  have HC0 := hidMk hc0
  have i0 : decide ((65536 : Int) < (n0 : Int)) = false := by simp; omega
  have i2 : decide ((1048576 : Int) < (nm.size : Int)) = false := by simp; omega
  clear hc0
  have HZ0 := hidMk z0
  clear z0
  have HI9 : Hid ((Try.prog.info? 9).map (·.size) = some 1) := hidMk (by obtain ⟨i, hi, _, hs, _⟩ := info_parts info9; rw [hi]; simp [hs])
  have q25 : ∀ (w : World) (a : Option Addr) (n c : Nat), (binOp .neq 25 (.slice a n c) (.slice none 0 0)).run Try.prog w = .ok (.bool (!a.isNone)) w := fun w a n c => run_neq_slice_nil_any w 25 9 a n c 0 0 Try.underlying25
  go_enter Try.func6, Try.ntmps6
  go_wp2_with fail
  refine (bytes19_any a0 n0 q0 xs nm p _ h0 HC0.out).mono ?_
  rintro e w' ⟨⟨b, rfl⟩, hw⟩
  have hw2 := hw.symm
  subst hw2
  clear hw
  cases b
  · go_wp2_with fail
    go_ret
    exact ⟨rfl, Below.refl _ _⟩
  · go_upto_if 32 with fail
    go_cut [0, 7] (fun s0 _ wc => ∃ a, s0 = .slice a n0 n0 ∧ StrRow wc a xs ∧ Below w.heap.size w wc ∧ AtTop a n0)
    case first =>
      cases a0 with
      | none =>
        obtain ⟨e1, e2⟩ := HZ0.out rfl
        go_wp2_with fail
        go_meet
        case rel => exact ⟨none, by rw [e1], HC0.out, Below.refl _ _, .inl ⟨rfl, e1⟩⟩
      | some x =>
        have hmk := make_len w n0 (by omega)
        go_wp2_with (first | (refine wpList_copy_splice rfl _ _ 25 25 rfl 9 Try.underlying25 (by rw [HI9.out]) _ _ n0 n0 n0 q0 rfl rfl w.heap.size 0 (blanks n0) 9 (heap_alloc_new w _) (strs xs) (by simp [strs, h0]) (copy_pos w x xs HC0.out _) (by rw [blanks_length]; simp [strs, h0]) (strs_one xs) w.heap.size w ((Below.refl _ w).alloc (Nat.le_refl _) _) (Nat.le_refl _) ?_; intro w2 hblk hbel))
        go_meet
        case rel => exact ⟨some ⟨w.heap.size, 0, none⟩, rfl, strRow_of_block hblk.out (fun j hj => splice_get xs _ j hj), hbel, .inr ⟨_, rfl⟩⟩
    case rest =>
      obtain ⟨b0, rfl, k0, hb1, m0⟩ := hcut
      have K0' := hidMk k0
      have HB2 := hidMk hb1
      have M0 := hidMk m0
      clear k0 hb1 m0
      rename World => wd
      go_wp2_with fail
      refine (addStr_any 0 nm _ (by omega) (by omega)).mono ?_
      rintro e wx ⟨⟨t0, rfl, t00, t01⟩, hwx⟩
      have hwx2 := hwx.symm
      subst hwx2
      clear hwx
      go_wp2_with fail
      refine (addStrs_eq t0 b0 n0 n0 xs _ h0 g0 K0'.out (by omega) (by omega)).mono ?_
      rintro e wx ⟨⟨t2, rfl, t20, t21⟩, hwx⟩
      have hwx2 := hwx.symm
      subst hwx2
      clear hwx
      clear t00 t01
      by_cases ht : (1048576 : Int) < t2
      · have hd : decide ((1048576 : Int) < t2) = true := by simpa using ht
        go_wp2_with fail
        go_ret
        exact ⟨rfl, HB2.out⟩
      · have hd : decide ((1048576 : Int) < t2) = false := by simpa using ht
        clear ht
        by_cases gq : p < 0
        · have j0 : decide (p < 0) = true := by simpa using gq
          clear gp gq
          go_wp2_with fail
          go_ret
          exact ⟨rfl, HB2.out⟩
        · have j0 : decide (p < 0) = false := by simpa using gq
          have j1 : decide ((n0 : Int) < p) = true := by simp; omega
          clear gp gq
          go_wp2_with fail
          go_ret
          exact ⟨rfl, HB2.out⟩

theorem law6_any (a0 : Option Addr) (n0 q0 : Nat) (xs : List ByteArray) (nm : ByteArray) (p : Int) (w : World) (h0 : xs.length = n0) (hc0 : StrRow w a0 xs) (z0 : a0 = none → n0 = 0 ∧ q0 = 0) :
    Calls Try.prog 6 #[.slice a0 n0 q0, .string nm, .int .i64 p] w fun e w' => e = .returned (.bool true) ∧ Below w.heap.size w w' := by
  by_cases g : 65536 < n0 ∨ 1048576 < nm.size
  · exact law6_early a0 n0 q0 xs nm p w h0 hc0 g
  · by_cases gp : p < 0 ∨ (n0 : Int) < p
    · exact law6_off a0 n0 q0 xs nm p w h0 hc0 z0 (by omega) (by omega) gp
    · obtain ⟨k, rfl⟩ := Int.eq_ofNat_of_zero_le (show 0 ≤ p by omega)
      exact law6_main a0 n0 q0 xs nm k w h0 hc0 z0 (by omega) (by omega) (by omega)
end Go.Proofs.Qxb6616617a
