import Derived.Test.Qxb6619005aLeaf
namespace Go.Proofs.Qxb6619005a
open Go.RowKit

set_option maxRecDepth 100000 in
set_option maxHeartbeats 4000000 in
theorem eqPaths_any (a0 a1 : Option Addr) (n q0 q1 : Nat) (xs : List Pa) (w : World) (hn : xs.length = n) (hm : n ≤ 1048576) (h0 : ARow Pa.z 8 w a0 xs) (h1 : ARow Pa.z 8 w a1 xs) :
    Calls Try.prog 35 #[.slice a0 n q0, .slice a1 n q1] w fun e w' => e = .returned (.bool true) ∧ Below w.heap.size w w' := by
  have H0 := hidMk h0
  have H1 := hidMk h1
  clear h0 h1
  go_enter Try.func35, Try.ntmps35
  go_wp2_with fail
  go_loopw [5] (fun i wr => ∃ k : Nat, i = .int .i64 k ∧ k ≤ n ∧ Below w.heap.size w wr) (fun i _ => n - (intOf i).toNat)
  case atStart => exact ⟨0, rfl, by omega, Below.refl _ _⟩
  case round =>
    obtain ⟨k, rfl, hk, hb⟩ := hrel
    by_cases hlt : k < n
    · have k0 : (0 : Int) ≤ (k : Int) := by omega
      have k1 : (k : Int) < (n : Int) := by omega
      obtain ⟨b0, o0, ha0, hc0⟩ := H0.out (by omega)
      obtain ⟨b1, o1, ha1, hc1⟩ := H1.out (by omega)
      obtain ⟨x, hx⟩ : ∃ x, xs[k]? = some x := ⟨xs[k]'(by omega), by simp⟩
      have R0 := hidMk (rangeAt_below (hc0 k x hx) hb (Nat.le_refl _))
      have R1 := hidMk (rangeAt_below (hc1 k x hx) hb (Nat.le_refl _))
      have HB := hidMk hb
      have hbs := hb.size
      clear hc0 hc1 hx hb
      subst ha0 ha1
      obtain ⟨x1, x2, x3, x4, x5, x6, x7, x8⟩ := x
      simp only [Pa.z] at R0 R1
      have sm5 : (x6.toList == x6.toList) = true := by simp
      have sn5 : (x6.toList != x6.toList) = false := by simp
      go_wp2_with (first | (refine wpList_load_mid rfl 65 _ rfl b0 (o0 + k * 8) rfl _ _ R0.out Try.underlying65 rfl info65 ?_) | (refine wpList_load_mid rfl 65 _ rfl b1 (o1 + k * 8) rfl _ _ (World.rangeAt_alloc R1.out _) Try.underlying65 rfl info65 ?_) | (refine wpList_store_new rfl 65 _ _ rfl _ _ _ rfl _ rfl (by simp) rfl info65 rfl rfl ?_))
      refine (f32_same x8 _).mono ?_
      rintro e wx ⟨rfl, hwx⟩
      have hwx2 := hwx.symm
      subst hwx2
      clear hwx
      go_wp2_with fail
      exact ⟨⟨k + 1, by go_num, by omega, (HB.out.alloc hbs _).alloc (by simp; omega) _⟩, by simp [intOf]; omega⟩
    · have hkn : k = n := by omega
      subst hkn
      have HB := hidMk hb
      clear hb
      go_wp2_with fail
      go_ret
      exact ⟨rfl, HB.out⟩
end Go.Proofs.Qxb6619005a
