import Derived.Test.Qxb6616435aState
namespace Go.Proofs.Qxb6616435a
open Go.RowKit

set_option maxHeartbeats 400000 in
theorem bytes10 (a0 a1 : Option Addr) (n0 n1 c0 c1 : Nat) (w : World) (h0 : n0 ≤ maxLen) (h1 : n1 ≤ maxLen) :
    Calls Try.prog 10 #[.slice a0 n0 c0, .slice a1 n1 c1] w fun e w' => e = .returned (.bool (decide (n0 + n1 ≤ 1048576))) ∧ w' = w := by
  unfold maxLen at h0 h1
  by_cases g0 : n0 ≤ 1048576
  · have i0 : decide ((1048576 : Int) < (n0 : Int)) = false := by simp; omega
    by_cases g1 : n1 ≤ 1048576
    · have i1 : decide ((1048576 : Int) < (n1 : Int)) = false := by simp; omega
      by_cases g2 : n0 + n1 ≤ 1048576
      · have i2 : decide ((1048576 : Int) < (n0 : Int) + (n1 : Int)) = false := by simp; omega
        have hg : decide (n0 + n1 ≤ 1048576) = true := by simpa using g2
        rw [hg]
        go_enter Try.func10, Try.ntmps10
        go_wp2
        go_ret
        exact ⟨rfl, rfl⟩
      · have i2 : decide ((1048576 : Int) < (n0 : Int) + (n1 : Int)) = true := by simp; omega
        have hg : decide (n0 + n1 ≤ 1048576) = false := by simpa using g2
        rw [hg]
        go_enter Try.func10, Try.ntmps10
        go_wp2
        go_ret
        exact ⟨rfl, rfl⟩
    · have i1 : decide ((1048576 : Int) < (n1 : Int)) = true := by simp; omega
      have hg : decide (n0 + n1 ≤ 1048576) = false := by simp; omega
      rw [hg]
      go_enter Try.func10, Try.ntmps10
      go_wp2
      go_ret
      exact ⟨rfl, rfl⟩
  · have i0 : decide ((1048576 : Int) < (n0 : Int)) = true := by simp; omega
    have hg : decide (n0 + n1 ≤ 1048576) = false := by simp; omega
    rw [hg]
    go_enter Try.func10, Try.ntmps10
    go_wp2
    go_ret
    exact ⟨rfl, rfl⟩

theorem bytes10_yes (a0 a1 : Option Addr) (n0 n1 c0 c1 : Nat) (w : World) (h : n0 + n1 ≤ 1048576) :
    Calls Try.prog 10 #[.slice a0 n0 c0, .slice a1 n1 c1] w fun e w' => e = .returned (.bool true) ∧ w' = w := by
  have := bytes10 a0 a1 n0 n1 c0 c1 w (by unfold maxLen; omega) (by unfold maxLen; omega)
  rwa [show decide (n0 + n1 ≤ 1048576) = true from by simpa using h] at this

theorem bytes10_no (a0 a1 : Option Addr) (n0 n1 c0 c1 : Nat) (w : World) (h0 : n0 ≤ maxLen) (h1 : n1 ≤ maxLen) (h : ¬ n0 + n1 ≤ 1048576) :
    Calls Try.prog 10 #[.slice a0 n0 c0, .slice a1 n1 c1] w fun e w' => e = .returned (.bool false) ∧ w' = w := by
  have := bytes10 a0 a1 n0 n1 c0 c1 w h0 h1
  rwa [show decide (n0 + n1 ≤ 1048576) = false from by simpa using h] at this

/-- Facts on the pool's cells, for the store of the whole array. -/
theorem pool_size {w w' : World} {A : Nat → Nat} {C : Array Value} (h : Pooled w w' A C) : (Try.prog.info? 30).map (·.size) = some C.size := by
  rw [h.size]; exact (zero_of_info info30).2
theorem pool_zero {w w' : World} {A : Nat → Nat} {C : Array Value} (h : Pooled w w' A C) : zeros30.size = C.size := by rw [zeros30_size, h.size]
theorem pool_one {w w' : World} {A : Nat → Nat} {C : Array Value} (h : Pooled w w' A C) : C.all (·.oneCell') = true := by
  rw [Array.all_eq_true_iff_forall_mem]
  intro x hx
  obtain ⟨j, hj, rfl⟩ := Array.mem_iff_getElem.1 hx
  have := h.cells j (by rw [← h.size]; exact hj)
  rw [Array.getElem?_eq_getElem hj, Option.some.injEq] at this
  rw [this]; rfl
theorem Pooled.base {w w1 : World} {A : Nat → Nat} {C : Array Value} (h : Pooled w w1 A C) : Base w (w1.alloc (.cells C 30)) w1.heap.size A C where
  below := h.below.alloc h.below.size _
  hB := h.below.size
  lo := h.lo
  hi := fun j hj => by obtain ⟨c, t, e⟩ := h.heads j hj; exact lt_of_heap e
  apart := h.apart
  heads := ((Fr.refl (fun _ => False) w1).alloc _).heads h.heads (fun _ _ hf => hf)
  csize := h.size
  cells := h.cells
  pool := heap_alloc_new w1 _
end Go.Proofs.Qxb6616435a
