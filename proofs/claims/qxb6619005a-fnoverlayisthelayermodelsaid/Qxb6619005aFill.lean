import Derived.Test.Qxb6619005aLeaf
import Derived.Laws.AppendOwn
import Derived.Deep.Upon
namespace Go.Proofs.Qxb6619005a
open Go.RowKit

/-- 'vs' laid over 'cur' from 'o' on. -/
def putAt (cur : List Value) (o : Nat) (vs : List Value) : List Value := cur.take o ++ vs ++ cur.drop (o + vs.length)

theorem putAt_length {cur vs : List Value} {o : Nat} (h : o + vs.length ≤ cur.length) : (putAt cur o vs).length = cur.length := by
  simp [putAt]; omega
theorem putAt_take {cur vs : List Value} {o : Nat} (h : o + vs.length ≤ cur.length) : (putAt cur o vs).take (o + vs.length) = cur.take o ++ vs := by
  unfold putAt
  rw [List.take_append_of_le_length (by simp; omega), List.take_of_length_le (by simp; omega)]

theorem putAt_set (v : Value) (r : List Value) (o : Nat) (cur : List Value) (h : o < cur.length) : putAt (cur.set o v) (o + 1) r = putAt cur o (v :: r) := by
  obtain ⟨l1, x, l2, rfl, rfl⟩ : ∃ l1 x l2, cur = l1 ++ x :: l2 ∧ l1.length = o := ⟨cur.take o, cur[o], cur.drop (o + 1), by simp, by simp; omega⟩
  have e1 : (l1 ++ x :: l2).set l1.length v = l1 ++ v :: l2 := by simp
  rw [e1]
  unfold putAt
  have e2 : (l1 ++ v :: l2).take (l1.length + 1) = l1 ++ [v] := by rw [List.take_append, List.take_of_length_le (by omega)]; simp
  rw [e2]
  have d1 : l1.drop (l1.length + 1 + r.length) = [] := List.drop_of_length_le (by omega)
  have d2 : l1.drop (l1.length + (r.length + 1)) = [] := List.drop_of_length_le (by omega)
  have e4 : l1.length + 1 + r.length - l1.length = r.length + 1 := by omega
  have e5 : l1.length + (r.length + 1) - l1.length = r.length + 1 := by omega
  have e6 : (l1 ++ x :: l2).take l1.length = l1 := by simp
  rw [e6, List.drop_append, List.drop_append, List.length_cons, d1, d2, e4, e5]
  simp
theorem heap_setCells {g : Nat} {e : TypeId} : ∀ (vs : List Value) (o : Nat) (w : World) (cur : List Value), w.heap[g]? = some (.cells cur.toArray e (0, 0)) → o + vs.length ≤ cur.length → (w.setCells g o vs).heap[g]? = some (.cells (putAt cur o vs).toArray e (0, 0))
  | [], o, w, cur, h, _ => by simpa [World.setCells, putAt] using h
  | v :: r, o, w, cur, h, hl => by
    rw [World.setCells]
    have h1 := heap_setCell_same w g o cur.toArray e v h
    have h2 : cur.toArray.setIfInBounds o v = (cur.set o v).toArray := by simp
    rw [h2] at h1
    have := heap_setCells r (o + 1) _ (cur.set o v) h1 (by simp at hl ⊢; omega)
    rw [this]
    simp at hl
    rw [putAt_set v r o cur (by omega)]

/-- The world has grown since 'w0', and block 'g' alone may have been written. 'done': its first cells by now. -/
structure Fill (w0 wr : World) (g e len : Nat) (done : List Value) : Prop where
  kept : w0.grownBy wr (some g)
  lt : g < w0.heap.size
  blk : ∃ cur : List Value, wr.heap[g]? = some (.cells cur.toArray e (0, 0)) ∧ cur.length = len ∧ cur.take done.length = done

theorem Fill.start {w0 : World} {g e len : Nat} {cur : List Value} (h : w0.heap[g]? = some (.cells cur.toArray e (0, 0))) (hl : cur.length = len) : Fill w0 w0 g e len [] where
  kept := ⟨rfl, rfl, rfl, Nat.le_refl _, fun _ _ _ => rfl⟩
  lt := by
    rcases Nat.lt_or_ge g w0.heap.size with h' | h'
    · exact h'
    · rw [Array.getElem?_eq_none h'] at h; cases h
  blk := ⟨cur, h, hl, by simp⟩

/-- One element more: first the world grows beyond itself, then the element is stored. -/
theorem Fill.step {w0 wr w1 : World} {g e len : Nat} {done vs : List Value} (h : Fill w0 wr g e len done) (hb : Below wr.heap.size wr w1) (hl : done.length + vs.length ≤ len) :
    Fill w0 (w1.setCells g done.length vs) g e len (done ++ vs) where
  kept := by
    have hk := h.kept
    have hlt : ∀ k, k < w0.heap.size → k < wr.heap.size := fun k hk' => Nat.lt_of_lt_of_le hk' hk.size
    refine ⟨?_, ?_, ?_, ?_, fun k hk' hne => ?_⟩
    · rw [World.os_setCells, hb.os, hk.os]
    · have : ∀ (vs : List Value) (o : Nat) (w : World), (w.setCells g o vs).tape = w.tape := fun vs => by
        induction vs with
        | nil => intro o w; rfl
        | cons v r ih => intro o w; rw [World.setCells, ih]; rfl
      rw [this, hb.tape, hk.tape]
    · rw [World.output_setCells, hb.output, hk.output]
    · have : ∀ (vs : List Value) (o : Nat) (w : World), (w.setCells g o vs).heap.size = w.heap.size := fun vs => by
        induction vs with
        | nil => intro o w; rfl
        | cons v r ih => intro o w; rw [World.setCells, ih]; simp
      rw [this]; exact Nat.le_trans hk.size hb.size
    · rw [World.heap_setCells_other _ _ _ _ (Nat.lt_of_lt_of_le (hlt k hk') hb.size) (fun e => hne (by rw [e])), hb.block k (hlt k hk'), hk.block k hk' hne]
  lt := h.lt
  blk := by
    obtain ⟨cur, hc, hcl, hct⟩ := h.blk
    have hg : w1.heap[g]? = some (.cells cur.toArray e (0, 0)) := by rw [hb.block g (Nat.lt_of_lt_of_le h.lt h.kept.size)]; exact hc
    refine ⟨putAt cur done.length vs, heap_setCells vs done.length w1 cur hg (by omega), ?_, ?_⟩
    · rw [putAt_length (by omega)]; exact hcl
    · rw [List.length_append, putAt_take (by omega), hct]

theorem Fill.there {w0 wr : World} {g e len : Nat} {done : List Value} (h : Fill w0 wr g e len done) {o n : Nat} (hl : o + n ≤ len) : wr.there g o n := fun j hj => by
  obtain ⟨cur, hc, hcl, _⟩ := h.blk
  rw [cell_of_row wr g (o + j) cur.toArray e (0, 0) hc]
  refine ⟨?_, by simp [World.frozen?, hc]⟩
  rw [List.getElem?_toArray, List.getElem?_eq_getElem (by omega)]; rfl

theorem Fill.cell {w0 wr : World} {g e len : Nat} {done : List Value} (h : Fill w0 wr g e len done) {p : Addr} {v : Value} (hp : w0.cell? p = some v) (hne : p.block ≠ g) : wr.cell? p = some v := by
  rw [World.cell?_of_block (w := w0) (h.kept.block p.block (World.block_lt_of_cell? _ _ hp) (fun e => hne (by injection e)))]
  exact hp

theorem Fill.owns {w0 wr : World} {g e k n base : Nat} {done : List Value} (h : Fill w0 wr g e (n * k) done) (hd : done.length = n * k) (hb : base ≤ g) (hn : n ≤ maxLen) : wr.ownsRow base e k (.slice (some ⟨g, 0, none⟩) n n) n done := by
  obtain ⟨cur, hc, hcl, hct⟩ := h.blk
  refine ⟨hd, .inr ⟨g, n, cur.toArray, rfl, hb, hc, Nat.le_refl _, hn, by simpa using hcl, ?_⟩⟩
  rw [← hd]; simpa using hct
end Go.Proofs.Qxb6619005a
