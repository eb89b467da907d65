import Derived.Test.Qxb6619005aLeaf
namespace Go.Proofs.Qxb6619005a
open Go.RowKit

set_option maxRecDepth 100000 in
set_option maxHeartbeats 4000000 in
theorem eqComs_any (a0 a1 : Option Addr) (n q0 q1 : Nat) (xs : List Cm) (w : World) (hn : xs.length = n) (hm : n ≤ 1048576) (h0 : ARow Cm.z 3 w a0 xs) (h1 : ARow Cm.z 3 w a1 xs) :
    Calls Try.prog 31 #[.slice a0 n q0, .slice a1 n q1] w fun e w' => e = .returned (.bool true) ∧ Below w.heap.size w w' := by
  have H0 := hidMk h0
  have H1 := hidMk h1
  clear h0 h1
  go_enter Try.func31, Try.ntmps31
  go_wp2_with fail
  go_loopw [5] (fun i wr => ∃ k : Nat, i = .int .i64 k ∧ k ≤ n ∧ Below w.heap.size w wr) (fun i _ => n - (intOf i).toNat)
  case atStart => exact ⟨0, rfl, by omega, Below.refl _ _⟩
  case round =>
    obtain ⟨k, rfl, hk, hb⟩ := hrel
    by_cases hlt : k < n
    · have k0 : (0 : Int) ≤ (k : Int) := by omega
      have k1 : (k : Int) < (n : Int) := by omega
      obtain ⟨b0, o0, ha0, hc0⟩ := H0.out (by omega)
      obtain ⟨b1, o1, ha1, hc1⟩ := H1.out (by omega)
      obtain ⟨x, hx⟩ : ∃ x, xs[k]? = some x := ⟨xs[k]'(by omega), by simp⟩
      have R0 := hidMk (rangeAt_below (hc0 k x hx) hb (Nat.le_refl _))
      have R1 := hidMk (rangeAt_below (hc1 k x hx) hb (Nat.le_refl _))
      have HB := hidMk hb
      clear hc0 hc1 hx hb
      subst ha0 ha1
      obtain ⟨x1, x2, x3⟩ := x
      simp only [Cm.z] at R0 R1
      have c0 : wr.cell? ⟨b0, o0 + k * 3, none⟩ = some (.int .u16 x1) := R0.out 0 _ rfl
      have c1 : wr.cell? ⟨b0, o0 + k * 3 + 1, none⟩ = some (.int .u32 x2) := R0.out 1 _ rfl
      have c2 : wr.cell? ⟨b0, o0 + k * 3 + 2, none⟩ = some (.string x3) := R0.out 2 _ rfl
      have d0 : wr.cell? ⟨b1, o1 + k * 3, none⟩ = some (.int .u16 x1) := R1.out 0 _ rfl
      have d1 : wr.cell? ⟨b1, o1 + k * 3 + 1, none⟩ = some (.int .u32 x2) := R1.out 1 _ rfl
      have d2 : wr.cell? ⟨b1, o1 + k * 3 + 2, none⟩ = some (.string x3) := R1.out 2 _ rfl
      have sm : (x3.toList == x3.toList) = true := by simp
      go_wp2_with fail
      go_region
      go_wp2_with fail
      exact ⟨⟨k + 1, by go_num, by omega, HB.out.drew⟩, by simp [intOf]; omega⟩
    · have hkn : k = n := by omega
      subst hkn
      have HB := hidMk hb
      clear hb
      go_wp2_with fail
      go_ret
      exact ⟨rfl, HB.out⟩
end Go.Proofs.Qxb6619005a
