import Derived.Test.Qxb6619005aPark
namespace Go.Proofs.Qxb6619005a
open Go.RowKit

/-- A delete record's values. -/
structure DelV where
  fl : Int
  rd : List Rd
  sd : List Sd
  fd : List Fd

/-- The pointer 'D' leads to the record 'd'. -/
def DelIs (w : World) (D : Option Addr) (d : Option DelV) : Prop :=
  (D = none ∧ d = none) ∨ ∃ (B bo : Nat) (v : DelV) (r s f : Sl), D = some ⟨B, bo, none⟩ ∧ d = some v ∧ w.cell? ⟨B, bo, none⟩ = some (.int .u16 v.fl) ∧ w.cell? ⟨B, bo + 1, none⟩ = some (.slice r.a r.n r.c) ∧ w.cell? ⟨B, bo + 2, none⟩ = some (.slice s.a s.n s.c) ∧ w.cell? ⟨B, bo + 3, none⟩ = some (.slice f.a f.n f.c) ∧
    v.rd.length = r.n ∧ v.sd.length = s.n ∧ v.fd.length = f.n ∧ ARow Rd.z 5 w r.a v.rd ∧ ARow Sd.z 3 w s.a v.sd ∧ ARow Fd.z 2 w f.a v.fd

/-- The bounds that a record's lists keep, and that a nil list is empty. -/
def DelOk (w : World) (D : Option Addr) : Prop :=
  ∀ B bo, D = some ⟨B, bo, none⟩ → ∀ f : Nat, f ≤ 3 → ∀ (a : Option Addr) (n c : Nat), w.cell? ⟨B, bo + f, none⟩ = some (.slice a n c) → n ≤ 1048576 ∧ (a = none → n = 0 ∧ c = 0)

/-- The record that zzToAirport (or zzFromAirport) makes: all of it lies at 'base' or above. 't': its type. -/
def DelA (w : World) (base t tr ts tf : Nat) (v : Value) (d : Option DelV) : Prop :=
  (v = .pointer none ∧ d = none) ∨ ∃ (G : Nat) (x : DelV) (r s f : Value), v = .pointer (some ⟨G, 0, none⟩) ∧ d = some x ∧ base ≤ G ∧ w.heap[G]? = some (.cells [.int .u16 x.fl, r, s, f].toArray t (0, 0)) ∧
    (∃ a, r = .slice a x.rd.length x.rd.length) ∧ (∃ a, s = .slice a x.sd.length x.sd.length) ∧ (∃ a, f = .slice a x.fd.length x.fd.length) ∧
    w.ownsRow base tr 5 r x.rd.length (x.rd.flatMap Rd.a) ∧ w.ownsRow base ts 3 s x.sd.length (x.sd.flatMap Sd.a) ∧ w.ownsRow base tf 2 f x.fd.length (x.fd.flatMap Fd.a)

theorem DelA.kept {w w' : World} {base t tr ts tf : Nat} {v : Value} {d : Option DelV} (h : DelA w base t tr ts tf v d) (hk : ∀ b, base ≤ b → b < w.heap.size → w'.heap[b]? = w.heap[b]?) : DelA w' base t tr ts tf v d := by
  rcases h with h | ⟨G, x, r, s, f, h1, h2, h3, h4, h5, h6, h7, h8, h9, h10⟩
  · exact .inl h
  · exact .inr ⟨G, x, r, s, f, h1, h2, h3, (hk G h3 (lt_of_heap h4)).trans h4, h5, h6, h7, owns_kept h8 hk, owns_kept h9 hk, owns_kept h10 hk⟩

/-- The elements of an owned row. -/
theorem flat_get {α : Type} (f : α → List Value) {K : Nat} (hf : ∀ x, (f x).length = K) : ∀ (xs : List α) (i : Nat) (x : α), xs[i]? = some x → ∀ j v, (f x)[j]? = some v → (xs.flatMap f)[i * K + j]? = some v
  | [], i, x, h, _, _, _ => by simp at h
  | y :: r, 0, x, h, j, v, hv => by
    simp at h; subst h
    have hj := (List.getElem?_eq_some_iff.1 hv).1
    rw [List.flatMap_cons, Nat.zero_mul, Nat.zero_add, List.getElem?_append_left hj]; exact hv
  | y :: r, i + 1, x, h, j, v, hv => by
    rw [List.flatMap_cons, List.getElem?_append_right (by rw [hf, Nat.add_mul]; omega), hf]
    have : (i + 1) * K + j - K = i * K + j := by rw [Nat.add_mul]; omega
    rw [this]
    exact flat_get f hf r i x (by simpa using h) j v hv
theorem owns_arow {α : Type} (f : α → List Value) {K : Nat} (hf : ∀ x, (f x).length = K) {w : World} {base e n n' c : Nat} {a : Option Addr} {xs : List α} (hK : 0 < K) (h : w.ownsRow base e K (.slice a n' c) n (xs.flatMap f)) : ARow f K w a xs ∧ xs.length = n := by
  have hl : xs.length = n := by
    have h1 := h.1
    rw [flat_len f K hf] at h1
    exact Nat.eq_of_mul_eq_mul_right hK h1
  refine ⟨fun hp => ?_, hl⟩
  rcases h.2 with ⟨h2, h3⟩ | ⟨g, cap, cur, hv, hb, hg, hnc, hcm, hcs, htake⟩
  · omega
  · injection hv with h1 h2 h3
    subst h1
    refine ⟨g, 0, rfl, fun i x hx j v hv => ?_⟩
    have h5 := flat_get f hf xs i x hx j v hv
    have hj : i * K + j < n * K := by
      have h6 := (List.getElem?_eq_some_iff.1 h5).1
      rw [h.1] at h6; exact h6
    rw [cell_of_row w g _ cur e (0, 0) hg, Nat.zero_add]
    rw [← htake, List.getElem?_take_of_lt hj] at h5
    rw [← h5]; simp

theorem DelA.is {w : World} {base t tr ts tf : Nat} {D : Option Addr} {d : Option DelV} (h : DelA w base t tr ts tf (.pointer D) d) : DelIs w D d := by
  rcases h with ⟨h, h'⟩ | ⟨G, x, r, s, f, h1, h2, h3, h4, ⟨ra, rfl⟩, ⟨sa, rfl⟩, ⟨fa, rfl⟩, h8, h9, h10⟩
  · injection h with h; exact .inl ⟨h, h'⟩
  · injection h1 with h1
    refine .inr ⟨G, 0, x, ⟨ra, x.rd.length, x.rd.length⟩, ⟨sa, x.sd.length, x.sd.length⟩, ⟨fa, x.fd.length, x.fd.length⟩, h1, h2, ?_, ?_, ?_, ?_, rfl, rfl, rfl, (owns_arow Rd.a Rd.a_len (by omega) h8).1, (owns_arow Sd.a Sd.a_len (by omega) h9).1, (owns_arow Fd.a Fd.a_len (by omega) h10).1⟩
    · exact (cell_of_row _ _ 0 _ _ (0, 0) h4).trans rfl
    · exact (cell_of_row _ _ 1 _ _ (0, 0) h4).trans rfl
    · exact (cell_of_row _ _ 2 _ _ (0, 0) h4).trans rfl
    · exact (cell_of_row _ _ 3 _ _ (0, 0) h4).trans rfl
theorem DelIs.below {w w' : World} {D : Option Addr} {d : Option DelV} (h : DelIs w D d) (hb : Below w.heap.size w w') : DelIs w' D d := by
  rcases h with h | ⟨B, bo, v, r, s, f, h1, h2, h3, h4, h5, h6, h7, h8, h9, h10, h11, h12⟩
  · exact .inl h
  · exact .inr ⟨B, bo, v, r, s, f, h1, h2, cell_below h3 hb, cell_below h4 hb, cell_below h5 hb, cell_below h6 hb, h7, h8, h9, h10.below hb, h11.below hb, h12.below hb⟩

/-- A store into the struct in block 'O', behind what grew beyond. -/
theorem seg_store {wc wk : World} {O f : Nat} (v : Value) (hb : Below wc.heap.size wc wk) (hO : O < wc.heap.size) : Seg wc (wk.setCell ⟨O, f, none⟩ v) O f v where
  kept := ⟨hb.os, hb.tape, hb.output, by simpa using hb.size, fun k hk hne => by
    rw [heap_setCell_other _ _ _ _ (fun e => hne (by rw [e])), hb.block k hk]⟩
  out := fun cs t hc => heap_setCell_same wk O f cs t v ((hb.block O hO).trans hc)
end Go.Proofs.Qxb6619005a
