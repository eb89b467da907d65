import Derived.Test.Qxb6616435aItoa
import Derived.Laws.Rows
import Derived.Laws.Tables
import Derived.Deep.WholeRow
namespace Go.Proofs.Qxb6616435a
open Go.RowKit

/-- 256 nil pointers. -/
def zeros30 : Array Value := Array.replicate 256 (.pointer none)
theorem zeros30_size : zeros30.size = 256 := by simp [zeros30]
theorem info30 : (Try.prog.info? 30).map (fun i => (i.zero, i.size)) = some (some (.agg zeros30), 256) := by kernel_rfl

/-- The pool after 'k' rounds: 'A j' the block of head 'j'; 'C' the pool's cells. -/
structure PoolAt (w wr : World) (A : Nat → Nat) (C : Array Value) (k : Nat) : Prop where
  below : Below w.heap.size w wr
  b0 : wr.heap[w.heap.size]? = some (.cells zeros30 30 (0, 0))
  b1 : wr.heap[w.heap.size + 1]? = some (.cells C 30 (0, 0))
  size : C.size = 256
  cells : ∀ j, j < k → C[j]? = some (hp (A j))
  heads : ∀ j, j < k → ∃ c, wr.heap[A j]? = some (.cells c 76 (0, 0))
  new : ∀ j, j < k → w.heap.size + 1 < A j
  apart : ∀ i j, i < k → j < k → A i = A j → i = j

theorem lt_of_heap {w : World} {k : Nat} {o : Obj} (h : w.heap[k]? = some o) : k < w.heap.size := by
  rcases Nat.lt_or_ge k w.heap.size with h' | h'
  · exact h'
  · rw [Array.getElem?_eq_none h'] at h; cases h

theorem pool_start (w : World) : PoolAt w ((w.alloc (.cells zeros30 30)).alloc (.cells zeros30 30)) (fun _ => 0) zeros30 0 where
  below := ((Below.refl _ w).alloc (Nat.le_refl _) _).alloc (by simp) _
  b0 := heap_alloc2_old w _ _
  b1 := heap_alloc2_new w _ _
  size := zeros30_size
  cells := fun j h => by omega
  heads := fun j h => by omega
  new := fun j h => by omega
  apart := fun i j h => by omega

theorem pool_step {w wr w1 : World} {A : Nat → Nat} {C : Array Value} {k : Nat} (h : PoolAt w wr A C k) (hb : Below wr.heap.size wr w1) (hk : k < 256) (c : Array Value) :
    PoolAt w ((w1.setCell ⟨w.heap.size + 1, k, none⟩ (hp w1.heap.size)).alloc (.cells c 76)) (fun j => if j = k then w1.heap.size else A j) (C.setIfInBounds k (hp w1.heap.size)) (k + 1) := by
  have l1 := lt_of_heap h.b1
  have hs := hb.size
  have e1 : w1.heap[w.heap.size + 1]? = some (.cells C 30 (0, 0)) := by rw [hb.block _ l1]; exact h.b1
  have sz : (w1.setCell ⟨w.heap.size + 1, k, none⟩ (hp w1.heap.size)).heap.size = w1.heap.size := World.size_setCell ..
  have old : ∀ i, i < w1.heap.size → i ≠ w.heap.size + 1 → ((w1.setCell ⟨w.heap.size + 1, k, none⟩ (hp w1.heap.size)).alloc (.cells c 76)).heap[i]? = w1.heap[i]? := fun i hi hne => by
    rw [Below.heap_alloc _ _ _ (by rw [sz]; exact hi), Below.heap_setCell _ _ _ _ hne]
  have lt : ∀ j, j < k → A j < wr.heap.size := fun j hj => by obtain ⟨c', e⟩ := h.heads j hj; exact lt_of_heap e
  refine ⟨?_, ?_, ?_, ?_, ?_, ?_, ?_, ?_⟩
  · exact ((h.below.trans (hb.mono (by omega))).setCell (by simp) _).alloc (by rw [sz]; omega) _
  · rw [old _ (by omega) (by omega), hb.block _ (by omega)]; exact h.b0
  · rw [Below.heap_alloc _ _ _ (by rw [sz]; omega), heap_setCell_same w1 _ k C 30 _ e1]
  · simp [h.size]
  · intro j hj
    rw [Array.getElem?_setIfInBounds]
    by_cases hjk : j = k
    · subst hjk; simp [h.size, hk]
    · rw [if_neg (Ne.symm hjk), if_neg hjk]; exact h.cells j (by omega)
  · intro j hj
    by_cases hjk : j = k
    · subst hjk
      refine ⟨c, ?_⟩
      have := heap_alloc_new (w1.setCell ⟨w.heap.size + 1, j, none⟩ (hp w1.heap.size)) (.cells c 76)
      rw [sz] at this
      simpa using this
    · obtain ⟨c', e⟩ := h.heads j (by omega)
      have hl := lt j (by omega)
      have hn := h.new j (by omega)
      refine ⟨c', ?_⟩
      simp only [if_neg hjk]
      rw [old _ (by omega) (by omega), hb.block _ hl]; exact e
  · intro j hj
    by_cases hjk : j = k
    · simp only [if_pos hjk]; omega
    · simp only [if_neg hjk]; exact h.new j (by omega)
  · intro i j hi hj e
    by_cases hik : i = k
    · by_cases hjk : j = k
      · omega
      · simp only [if_pos hik, if_neg hjk] at e
        have := lt j (by omega); omega
    · by_cases hjk : j = k
      · simp only [if_neg hik, if_pos hjk] at e
        have := lt i (by omega); omega
      · simp only [if_neg hik, if_neg hjk] at e
        exact h.apart i j (by omega) (by omega) e

/-- The pool as it is handed back. -/
structure Pooled (w w' : World) (A : Nat → Nat) (C : Array Value) : Prop where
  below : Below w.heap.size w w'
  size : C.size = 256
  cells : ∀ j, j < 256 → C[j]? = some (hp (A j))
  heads : Heads w' A
  lo : ∀ j, j < 256 → w.heap.size ≤ A j
  apart : Apart A

theorem heap_setRow_other (w : World) (g : Nat) (cs : Array Value) (k : Nat) (h : k ≠ g) : (w.setRow g cs).heap[k]? = w.heap[k]? := by
  simp only [World.setRow, Array.getElem?_modify]
  rw [if_neg (Ne.symm h)]

theorem pool_done {w wr : World} {A : Nat → Nat} {C : Array Value} (h : PoolAt w wr A C 256) : Pooled w (wr.setRow w.heap.size C) A C where
  below := h.below.trans ⟨rfl, rfl, rfl, by simp, fun k hk => heap_setRow_other _ _ _ _ (by omega)⟩
  size := h.size
  cells := h.cells
  heads := fun j hj => by
    obtain ⟨c, e⟩ := h.heads j hj
    have := h.new j hj
    exact ⟨c, 76, by rw [heap_setRow_other _ _ _ _ (by omega)]; exact e⟩
  lo := fun j hj => by have := h.new j hj; omega
  apart := h.apart

theorem itoa_any (n : Nat) (h1 : n < 256) (w : World) : Calls Try.prog 27 #[.int .i64 (n : Int)] w fun e w' => (∃ s, e = .returned (.string s) ∧ s.size ≤ 20) ∧ Below w.heap.size w w' := by
  rcases Nat.eq_zero_or_pos n with h | h
  · subst h; exact itoa_zero w
  · exact itoa_pos n h h1 w

set_option maxHeartbeats 1000000 in
theorem pool_any (w : World)  :
    Calls Try.prog 11 #[] w fun e w' => ∃ (A : Nat → Nat) (C : Array Value), e = .returned (.agg C) ∧ Pooled w w' A C := by
  obtain ⟨hz, hi⟩ := zero_of_info info30
  go_enter Try.func11, Try.ntmps11
  go_wp2
  clear hz
  have HI : Hid ((Try.prog.info? 30).map (·.size) = some 256) := hi
  clear hi
  go_loopw [2] (fun i wr => ∃ (k : Nat) (A : Nat → Nat) (C : Array Value), i = .int .i64 k ∧ k ≤ 256 ∧ PoolAt w wr A C k) (fun i _ => 256 - (intOf i).toNat)
  case atStart => exact ⟨0, _, _, rfl, by omega, pool_start w⟩
  case round =>
    obtain ⟨k, A, C, rfl, hk, hp0⟩ := hrel
    rename_i wr
    by_cases hlt : k < 256
    · have hk0 : (0 : Int) ≤ (k : Int) := by omega
      have hk1 : (k : Int) < 256 := by omega
      have HP := hidMk hp0
      have l1 := lt_of_heap hp0.b1
      obtain ⟨v0, hv0⟩ : ∃ v0, C[k]? = some v0 := ⟨C[k]'(by rw [hp0.size]; exact hlt), by rw [Array.getElem?_eq_getElem]⟩
      have c0 := cell_of_row wr _ k C 30 (0, 0) hp0.b1
      have f0 := frozen_of_row wr _ k C 30 hp0.b1
      rw [hv0] at c0
      clear hp0 hv0
      go_wp2_with fail
      refine (itoa_any k hlt wr).mono ?_
      rintro e w1 ⟨⟨s, rfl, hs⟩, hb⟩
      have HB := hidMk hb
      have c1 := (hb.cell (p := ⟨w.heap.size + 1, k, none⟩) l1).trans c0
      have f1 := (hb.frozen (p := ⟨w.heap.size + 1, k, none⟩) l1).trans f0
      have l2 : w.heap.size + 1 < w1.heap.size := Nat.lt_of_lt_of_le l1 hb.size
      clear hb c0 f0 l1
      go_wp2_with fail
      refine (zzNewHead_any _ _).mono ?_
      rintro e w2 ⟨rfl, c, rfl⟩
      go_wp2_with fail
      exact ⟨⟨k + 1, _, _, by go_num, by omega, pool_step HP.out HB.out hlt c⟩, by simp [intOf]; omega⟩
    · have hk2 : k = 256 := by omega
      subst hk2
      have HP := hidMk hp0
      have b0 := hp0.b0
      have b1 := hp0.b1
      have hsz : (Try.prog.info? 30).map (·.size) = some C.size := by rw [hp0.size]; exact HI.out
      have hone : C.all (·.oneCell') = true := by
        rw [Array.all_eq_true_iff_forall_mem]
        intro x hx
        obtain ⟨j, hj, rfl⟩ := Array.mem_iff_getElem.1 hx
        have := hp0.cells j (by rw [← hp0.size]; exact hj)
        rw [Array.getElem?_eq_getElem hj, Option.some.injEq] at this
        rw [this]; rfl
      have HS := hidMk hsz
      have HO := hidMk hone
      have HZ : Hid (zeros30.size = C.size) := hidMk (by rw [zeros30_size, hp0.size])
      clear hsz hone hp0
      have B0 := hidMk b0
      have B1 := hidMk b1
      clear b0 b1
      go_wp2_with (first | (refine wpList_load_row rfl 30 _ rfl (w.heap.size + 1) rfl 30 C (0, 0) _ B1.out Try.underlying30 rfl HS.out ?_) | (refine wpList_store_row rfl 30 _ _ rfl w.heap.size C rfl rfl 30 zeros30 B0.out HS.out HZ.out HO.out ?_))
      refine bodyPost_ret (v := .agg C) ?_ rfl ⟨A, C, rfl, pool_done HP.out⟩
      exact results_cell_row rfl _ _ w.heap.size 30 C (0, 0) _ rfl (setRow_heap wr w.heap.size zeros30 C 30 (0, 0) B0.out) Try.underlying30 rfl HS.out
end Go.Proofs.Qxb6616435a
