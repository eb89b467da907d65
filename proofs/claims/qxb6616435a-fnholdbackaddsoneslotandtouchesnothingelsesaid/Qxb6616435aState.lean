import Derived.Test.Qxb6616435aPool
import Derived.Test.Qxb6616435aPlain
namespace Go.Proofs.Qxb6616435a
open Go.RowKit

/-- 256 cells, one for each number. -/
def row (f : Nat → Value) : Array Value := ((List.range 256).map f).toArray
theorem row_size (f : Nat → Value) : (row f).size = 256 := by simp [row]
theorem row_at (f : Nat → Value) {j : Nat} (h : j < 256) : (row f)[j]? = some (f j) := by simp [row, h]
theorem row_set (f : Nat → Value) (i : Nat) (v : Value) : (row f).setIfInBounds i v = row (fun j => if j = i then v else f j) := by
  apply Array.ext_getElem?
  intro j
  rw [Array.getElem?_setIfInBounds, row_size]
  by_cases hj : j < 256
  · rw [row_at f hj, row_at _ hj]
    by_cases h : i = j
    · subst h; simp [hj]
    · rw [if_neg h, if_neg (fun e => h e.symm)]
  · have n1 : (row f)[j]? = none := Array.getElem?_eq_none (by rw [row_size]; omega)
    have n2 : (row (fun j => if j = i then v else f j))[j]? = none := Array.getElem?_eq_none (by rw [row_size]; omega)
    rw [n1, n2]
    split
    · rename_i h; rw [if_neg (by omega)]
    · rfl
theorem row_congr {f g : Nat → Value} (h : ∀ j, j < 256 → f j = g j) : row f = row g := by
  unfold row; congr 1; exact List.map_congr_left (fun j hj => h j (by simpa using hj))

def cells16 (g : Nat → Nat) : Array Value := row (fun j => .int .u16 ((g j : Nat) : Int))
def cellsB (s : Nat → Bool) : Array Value := row (fun j => .bool (s j))

theorem info34 : (Try.prog.info? 34).map (fun i => (i.zero, i.size)) = some (some (.agg (cells16 (fun _ => 0))), 256) := by kernel_rfl
theorem info35 : (Try.prog.info? 35).map (fun i => (i.zero, i.size)) = some (some (.agg (cellsB (fun _ => false))), 256) := by kernel_rfl

/-- The pool, its heads, and nothing old turned. 'B' is the pool's block. -/
structure Base (w wr : World) (B : Nat) (A : Nat → Nat) (C : Array Value) : Prop where
  below : Below w.heap.size w wr
  hB : w.heap.size ≤ B
  lo : ∀ j, j < 256 → w.heap.size ≤ A j
  hi : ∀ j, j < 256 → A j < B
  apart : Apart A
  heads : Heads wr A
  csize : C.size = 256
  cells : ∀ j, j < 256 → C[j]? = some (hp (A j))
  pool : wr.heap[B]? = some (.cells C 30 (0, 0))

theorem Base.cell {w wr : World} {B : Nat} {A : Nat → Nat} {C : Array Value} (h : Base w wr B A C) {j : Nat} (hj : j < 256) : wr.cell? ⟨B, j, none⟩ = some (hp (A j)) := by
  rw [cell_of_row wr B j C 30 (0, 0) h.pool]; exact h.cells j hj

/-- Only blocks behind the pool's turn. -/
theorem Base.fr {w wr w' : World} {B : Nat} {A : Nat → Nat} {C : Array Value} (h : Base w wr B A C) {D : Nat → Prop} (hf : Fr D wr w') (hD : ∀ k, D k → B < k) : Base w w' B A C where
  below := h.below.trans (hf.below h.below.size (fun k hk => by have := hD k hk; have := h.hB; omega))
  hB := h.hB
  lo := h.lo
  hi := h.hi
  apart := h.apart
  heads := hf.heads h.heads (fun j hj hd => by have := hD _ hd; have := h.hi j hj; omega)
  csize := h.csize
  cells := h.cells
  pool := by rw [hf.block B (lt_of_heap h.pool) (fun hd => by have := hD B hd; omega)]; exact h.pool

/-- A transaction at block 'b' that holds the list 'L' back, its map (if any) a block behind 'B'. -/
structure Hold (wr : World) (A : Nat → Nat) (B b : Nat) (m : Option Nat) (L : List (Nat × Nat)) : Prop where
  tx : Tx wr b m
  map : MapIs wr A m L
  new : ∀ r, m = some r → B < r

theorem Hold.fr {wr w' : World} {A : Nat → Nat} {B b : Nat} {m : Option Nat} {L : List (Nat × Nat)} (h : Hold wr A B b m L) {D : Nat → Prop} (hf : Fr D wr w') (hb : ¬ D b) (hr : ∀ r, m = some r → ¬ D r) : Hold w' A B b m L :=
  ⟨hf.tx h.tx hb, hf.map h.map hr, h.new⟩

/-- A block of 256 cells of ours. -/
def Own (wr : World) (b : Nat) (t : TypeId) (c : Array Value) : Prop := wr.heap[b]? = some (.cells c t (0, 0))
theorem Own.fr {wr w' : World} {b : Nat} {t : TypeId} {c : Array Value} (h : Own wr b t c) {D : Nat → Prop} (hf : Fr D wr w') (hb : ¬ D b) : Own w' b t c := by
  unfold Own at h ⊢; rw [hf.block b (lt_of_heap h) hb]; exact h
theorem Own.cell {wr : World} {b : Nat} {t : TypeId} {c : Array Value} (h : Own wr b t c) (j : Nat) : wr.cell? ⟨b, j, none⟩ = c[j]? := cell_of_row wr b j c t (0, 0) h
theorem Own.frozen {wr : World} {b : Nat} {t : TypeId} {c : Array Value} (h : Own wr b t c) (j : Nat) : wr.frozen? ⟨b, j, none⟩ = false := frozen_of_row wr b j c t h
theorem Own.lt {wr : World} {b : Nat} {t : TypeId} {c : Array Value} (h : Own wr b t c) : b < wr.heap.size := lt_of_heap h
theorem Own.set {wr : World} {b : Nat} {t : TypeId} {c : Array Value} (h : Own wr b t c) (j : Nat) (v : Value) : Own (wr.setCell ⟨b, j, none⟩ v) b t (c.setIfInBounds j v) := heap_setCell_same wr b j c t v h

theorem fr_setCell (w : World) (b j : Nat) (v : Value) : Fr (fun k => k = b) w (w.setCell ⟨b, j, none⟩ v) := (Fr.refl (fun k => k = b) w).setCell _ _ rfl
theorem fr_drew (w : World) : Fr (fun _ => False) w w.drew := (Fr.refl _ w).drew

/-- What a hold-back makes of its transaction. -/
theorem Held.hold {wr w' : World} {A : Nat → Nat} {B b : Nat} {m : Option Nat} {L' : List (Nat × Nat)} (h : Held wr w' A b m L') (hm : ∀ r, m = some r → B < r) (hB : B < wr.heap.size) :
    ∃ r, Hold w' A B b (some r) L' ∧ (m = some r ∨ (m = none ∧ r = wr.heap.size)) := by
  obtain ⟨r, h1, h2, h3⟩ := h.run
  refine ⟨r, ⟨h1, h2, fun q hq => ?_⟩, h3⟩
  cases hq
  rcases h3 with h3 | ⟨_, h3⟩
  · exact hm r h3
  · omega
end Go.Proofs.Qxb6616435a
