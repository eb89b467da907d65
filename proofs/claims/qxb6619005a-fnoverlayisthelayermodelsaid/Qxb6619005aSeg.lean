import Derived.Test.Qxb6619005aStore
namespace Go.Proofs.Qxb6619005a
open Go.RowKit

theorem flat_len {α : Type} (f : α → List Value) (K : Nat) (hf : ∀ x, (f x).length = K) : ∀ xs : List α, (xs.flatMap f).length = xs.length * K
  | [] => by simp
  | x :: r => by rw [List.flatMap_cons, List.length_append, hf, flat_len f K hf r, List.length_cons, Nat.add_mul]; omega

theorem Fill.next {α : Type} (f : α → List Value) {K : Nat} (hf : ∀ x, (f x).length = K) {w0 wr w1 : World} {g e n i : Nat} {xs : List α} {y : α} (h : Fill w0 wr g e (n * K) ((xs.take i).flatMap f)) (hn : xs.length = n) (hy : xs[i]? = some y) (hb : Below wr.heap.size wr w1) :
    Fill w0 (w1.setCells g (i * K) (f y)) g e (n * K) ((xs.take (i + 1)).flatMap f) := by
  have hi : i < xs.length := (List.getElem?_eq_some_iff.1 hy).1
  have hl : ((xs.take i).flatMap f).length = i * K := by rw [flat_len f K hf, List.length_take, Nat.min_eq_left (by omega)]
  have hm : (i + 1) * K ≤ n * K := Nat.mul_le_mul_right K (by omega)
  have := h.step (vs := f y) hb (by rw [hl, hf]; rw [Nat.add_mul] at hm; omega)
  rw [hl] at this
  rw [List.take_add_one, hy]
  simpa using this

theorem Fill.done {α : Type} (f : α → List Value) {K : Nat} (hf : ∀ x, (f x).length = K) {w0 wr : World} {g e n base : Nat} {xs : List α} (h : Fill w0 wr g e (n * K) ((xs.take n).flatMap f)) (hn : xs.length = n) (hb : base ≤ g) (hm : n ≤ 1048576) :
    wr.ownsRow base e K (.slice (some ⟨g, 0, none⟩) n n) n (xs.flatMap f) := by
  rw [List.take_of_length_le (by omega)] at h
  exact h.owns (by rw [flat_len f K hf, hn]) hb (by unfold maxLen; omega)

theorem owns_nil (w : World) (base e K : Nat) : w.ownsRow base e K (.slice none 0 0) 0 [] := ⟨by simp, .inl ⟨rfl, rfl⟩⟩

/-- Between two worlds one field of the struct in block 'O' has been set; all else is kept. -/
structure Seg (wc wd : World) (O f : Nat) (v : Value) : Prop where
  kept : wc.grownBy wd (some O)
  out : ∀ cs t, wc.heap[O]? = some (.cells cs t (0, 0)) → wd.heap[O]? = some (.cells (cs.setIfInBounds f v) t (0, 0))

theorem Seg.same {wc : World} {O f : Nat} {v : Value} (h : wc.cell? ⟨O, f, none⟩ = some v) : Seg wc wc O f v where
  kept := ⟨rfl, rfl, rfl, Nat.le_refl _, fun _ _ _ => rfl⟩
  out := fun cs t hc => by
    rw [hc]
    rw [cell_of_row wc O f cs t (0, 0) hc] at h
    congr 2
    apply Array.ext_getElem?
    intro i
    rw [Array.getElem?_setIfInBounds]
    split
    · rename_i e; subst e; rw [h]; split <;> simp_all
    · rfl

/-- The start of a segment: a new row, and the field set to it. -/
theorem seg_start (wc : World) (O f : Nat) (v : Value) (o : Obj) (hO : O < wc.heap.size) : Seg wc ((wc.setCell ⟨O, f, none⟩ v).alloc o) O f v where
  kept := ⟨rfl, rfl, rfl, by simp, fun k hk hne => by
    rw [Below.heap_alloc _ _ _ (by simpa using hk), heap_setCell_other _ _ _ _ (fun e => hne (by rw [e]))]⟩
  out := fun cs t hc => by
    rw [Below.heap_alloc _ _ _ (by simpa using hO)]
    exact heap_setCell_same wc O f cs t v hc

theorem Seg.fill {wc w0 wr : World} {O f g e len : Nat} {v : Value} {done : List Value} (h : Seg wc w0 O f v) (hF : Fill w0 wr g e len done) (hg : wc.heap.size ≤ g) (hO : O < wc.heap.size) : Seg wc wr O f v where
  kept := ⟨hF.kept.os.trans h.kept.os, hF.kept.tape.trans h.kept.tape, hF.kept.output.trans h.kept.output, Nat.le_trans h.kept.size hF.kept.size, fun k hk hne => by
    rw [hF.kept.block k (Nat.lt_of_lt_of_le hk h.kept.size) (fun e => by injection e with e; omega), h.kept.block k hk hne]⟩
  out := fun cs t hc => by
    rw [hF.kept.block O (Nat.lt_of_lt_of_le hO h.kept.size) (fun e => by injection e with e; omega)]
    exact h.out cs t hc

/-- The state between the segments of 'zzToAirport': its argument's box, its result's variable, its 'out'. -/
structure TA (w wc : World) (X tz ta : Nat) (args outs zeros : List Value) : Prop where
  below : Below X w wc
  box : wc.heap[X]? = some (.cells args.toArray tz (0, 0))
  res : wc.heap[X + 1]? = some (.cells zeros.toArray ta (0, 0))
  out : wc.heap[X + 1 + 1]? = some (.cells outs.toArray ta (0, 0))

theorem lt_of_heap {w : World} {k : Nat} {o : Obj} (h : w.heap[k]? = some o) : k < w.heap.size := by
  rcases Nat.lt_or_ge k w.heap.size with h' | h'
  · exact h'
  · rw [Array.getElem?_eq_none h'] at h; cases h

theorem ta_start (w : World) (args zeros outs : List Value) (tz ta : Nat) : TA w (((w.alloc (.cells args.toArray tz)).alloc (.cells zeros.toArray ta)).alloc (.cells outs.toArray ta)) w.heap.size tz ta args outs zeros where
  below := (((Below.refl _ w).alloc (Nat.le_refl _) _).alloc (by simp) _).alloc (by simp; omega) _
  box := by rw [Below.heap_alloc _ _ _ (by simp; omega), Below.heap_alloc _ _ _ (by simp)]; exact heap_alloc_new _ _
  res := by rw [Below.heap_alloc _ _ _ (by simp)]; have := heap_alloc_new (w.alloc (.cells args.toArray tz)) (.cells zeros.toArray ta); simpa using this
  out := by have := heap_alloc_new ((w.alloc (.cells args.toArray tz)).alloc (.cells zeros.toArray ta)) (.cells outs.toArray ta); simpa using this

theorem TA.next {w wc wd : World} {X tz ta f : Nat} {args outs zeros : List Value} {v : Value} (h : TA w wc X tz ta args outs zeros) (hs : Seg wc wd (X + 1 + 1) f v) : TA w wd X tz ta args (outs.set f v) zeros where
  below := h.below.trans ⟨hs.kept.os, hs.kept.tape, hs.kept.output, hs.kept.size, fun k hk => hs.kept.block k (by have := lt_of_heap h.out; omega) (fun e => by injection e with e; omega)⟩
  box := by rw [hs.kept.block X (lt_of_heap h.box) (fun e => by injection e with e; omega)]; exact h.box
  res := by rw [hs.kept.block (X + 1) (lt_of_heap h.res) (fun e => by injection e with e; omega)]; exact h.res
  out := by rw [hs.out _ _ h.out]; simp

theorem seg_keep {wc wd : World} {X f base e k n : Nat} {xs : List Value} {u v : Value} (hs : Seg wc wd (X + 1 + 1) f v) (ho : wc.ownsRow base e k u n xs) (hb : X + 3 ≤ base) : wd.ownsRow base e k u n xs :=
  owns_kept ho (fun b hb' hlt => hs.kept.block b hlt (fun e => by injection e with e; omega))
theorem Seg.cell {wc wd : World} {O f : Nat} {v u : Value} {p : Addr} (hs : Seg wc wd O f v) (h : wc.cell? p = some u) (hne : p.block ≠ O) : wd.cell? p = some u :=
  hs.kept.cell h (fun e => hne (by injection e))
theorem Seg.set {wc wd : World} {O f t : Nat} {v u : Value} {cs : List Value} (hs : Seg wc wd O f v) (hc : wc.heap[O]? = some (.cells cs.toArray t (0, 0))) (hf : cs[f]? = some u) : wd.cell? ⟨O, f, none⟩ = some v := by
  have hl := (List.getElem?_eq_some_iff.1 hf).1
  rw [cell_of_row _ _ f _ _ (0, 0) (hs.out _ _ hc)]
  simp [hl]
theorem Seg.below {B : Nat} {w wc wd : World} {O f : Nat} {v : Value} (hs : Seg wc wd O f v) (h : Below B w wc) (hO : B ≤ O) (hB : B ≤ wc.heap.size) : Below B w wd :=
  h.trans ⟨hs.kept.os, hs.kept.tape, hs.kept.output, hs.kept.size, fun k hk => hs.kept.block k (by omega) (fun e => by injection e with e; omega)⟩
end Go.Proofs.Qxb6619005a
