import Derived.Test.Qxb6619005aLeaf
import Derived.ChangeKeysEq
namespace Go.Proofs.Qxb6619005a
open Go.RowKit
theorem eq91 (w : World) (a b c d : Int) : (Op.equalIn 10000 91 (.agg #[.int .u8 a, .int .u8 b, .int .u8 c, .int .u8 d]) (.agg #[.int .u8 a, .int .u8 b, .int .u8 c, .int .u8 d])).run Try.prog w = .ok true w := by
  have hc : Try.prog.cellsOf 5 = 1 := by kernel_rfl
  have hi : (Try.prog.info? 5).isSome = true := by kernel_rfl
  obtain ⟨i, hi⟩ := Option.isSome_iff_exists.1 hi
  rw [run_equalIn_array w 9999 _ _ Try.underlying91 hi, hc]
  have hr : List.range 4 = [0, 1, 2, 3] := rfl
  have e : ∀ x : Int, (Op.equalIn 9999 5 (.int .u8 x) (.int .u8 x)).run Try.prog w = .ok true w := fun x => by
    rw [run_equalIn_int w 9998 5 .u8 .u8 x x Try.underlying5]; simp
  simp [hr, Op.eqItems, part, isAgg, run_underlying Try.underlying5, e]

set_option maxRecDepth 100000 in
set_option maxHeartbeats 4000000 in
theorem eqHelipads_any (a0 a1 : Option Addr) (n q0 q1 : Nat) (xs : List Hp) (w : World) (hn : xs.length = n) (hm : n ≤ 1048576) (h0 : ARow Hp.z 14 w a0 xs) (h1 : ARow Hp.z 14 w a1 xs) :
    Calls Try.prog 32 #[.slice a0 n q0, .slice a1 n q1] w fun e w' => e = .returned (.bool true) ∧ Below w.heap.size w w' := by
  have H0 := hidMk h0
  have H1 := hidMk h1
  clear h0 h1
  go_enter Try.func32, Try.ntmps32
  go_wp2_with fail
  go_loopw [5] (fun i wr => ∃ k : Nat, i = .int .i64 k ∧ k ≤ n ∧ Below w.heap.size w wr) (fun i _ => n - (intOf i).toNat)
  case atStart => exact ⟨0, rfl, by omega, Below.refl _ _⟩
  case round =>
    obtain ⟨k, rfl, hk, hb⟩ := hrel
    by_cases hlt : k < n
    · have k0 : (0 : Int) ≤ (k : Int) := by omega
      have k1 : (k : Int) < (n : Int) := by omega
      obtain ⟨b0, o0, ha0, hc0⟩ := H0.out (by omega)
      obtain ⟨b1, o1, ha1, hc1⟩ := H1.out (by omega)
      obtain ⟨x, hx⟩ : ∃ x, xs[k]? = some x := ⟨xs[k]'(by omega), by simp⟩
      have R0 := hidMk (rangeAt_below (hc0 k x hx) hb (Nat.le_refl _))
      have R1 := hidMk (rangeAt_below (hc1 k x hx) hb (Nat.le_refl _))
      have HB := hidMk hb
      have hbs := hb.size
      clear hc0 hc1 hx hb
      subst ha0 ha1
      obtain ⟨x1, x2, x3, x4, x5, x6, x7, x8, x9, x10, x11, x12, x13, x14⟩ := x
      simp only [Hp.z] at R0 R1
      have sb2 : (x3 != x3) = false := by simp
      have sb3 : (x4 != x4) = false := by simp
      have e91 : ∀ w : World, (Op.equalIn 10000 91 (.agg #[.int .u8 x5, .int .u8 x6, .int .u8 x7, .int .u8 x8]) (.agg #[.int .u8 x5, .int .u8 x6, .int .u8 x7, .int .u8 x8])).run Try.prog w = .ok true w := fun w => eq91 w x5 x6 x7 x8
      go_wp2_with (first | (refine wpList_load_mid rfl 93 _ rfl b0 (o0 + k * 14) rfl _ _ R0.out Try.underlying93 rfl info93 ?_) | (refine wpList_load_mid rfl 93 _ rfl b1 (o1 + k * 14) rfl _ _ (World.rangeAt_alloc R1.out _) Try.underlying93 rfl info93 ?_) | (refine wpList_store_new rfl 93 _ _ rfl _ _ _ rfl _ rfl (by simp) rfl info93 rfl rfl ?_))
      refine (f64_same x9 _).mono ?_
      rintro e wx ⟨rfl, hwx⟩
      have hwx2 := hwx.symm
      subst hwx2
      clear hwx
      go_wp2_with fail
      refine (f64_same x10 _).mono ?_
      rintro e wx ⟨rfl, hwx⟩
      have hwx2 := hwx.symm
      subst hwx2
      clear hwx
      go_wp2_with fail
      refine (f64_same x11 _).mono ?_
      rintro e wx ⟨rfl, hwx⟩
      have hwx2 := hwx.symm
      subst hwx2
      clear hwx
      go_wp2_with fail
      refine (f32_same x12 _).mono ?_
      rintro e wx ⟨rfl, hwx⟩
      have hwx2 := hwx.symm
      subst hwx2
      clear hwx
      go_wp2_with fail
      refine (f32_same x13 _).mono ?_
      rintro e wx ⟨rfl, hwx⟩
      have hwx2 := hwx.symm
      subst hwx2
      clear hwx
      go_wp2_with fail
      refine (f32_same x14 _).mono ?_
      rintro e wx ⟨rfl, hwx⟩
      have hwx2 := hwx.symm
      subst hwx2
      clear hwx
      go_wp2_with fail
      exact ⟨⟨k + 1, by go_num, by omega, (HB.out.alloc hbs _).alloc (by simp; omega) _⟩, by simp [intOf]; omega⟩
    · have hkn : k = n := by omega
      subst hkn
      have HB := hidMk hb
      clear hb
      go_wp2_with fail
      go_ret
      exact ⟨rfl, HB.out⟩
end Go.Proofs.Qxb6619005a
