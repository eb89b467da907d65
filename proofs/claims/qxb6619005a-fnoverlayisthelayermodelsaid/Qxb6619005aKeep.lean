import Derived.Test.Qxb6619005aFill
namespace Go.Proofs.Qxb6619005a
open Go.RowKit

/-! ### make -/
theorem parts_of {e k by' : Nat} (h : (Try.prog.info? e).map (fun i => (i.size, i.bytes, i.zero.map (·.cells.size))) = some (k, by', some k)) :
    ∃ i z, Try.prog.info? e = some i ∧ i.zero = some z ∧ i.size = k ∧ i.bytes = by' ∧ z.cells.size = k := by
  obtain ⟨i, hi, he⟩ := Option.map_eq_some_iff.1 h
  simp only [Prod.mk.injEq] at he
  obtain ⟨h1, h2, h3⟩ := he
  obtain ⟨z, hz, hs⟩ := Option.map_eq_some_iff.1 h3
  exact ⟨i, z, hi, hz, h1, h2, hs⟩

theorem make_any {t e k by' : Nat} (hu : Try.prog.underlying t = some (.slice e)) (h : (Try.prog.info? e).map (fun i => (i.size, i.bytes, i.zero.map (·.cells.size))) = some (k, by', some k)) (n : Nat) (hn : n ≤ 1048576) (hb : by' ≤ 1000) :
    ∃ cur : List Value, cur.length = n * k ∧ ∀ w : World, (Instr.makeSlice t (.int .i64 (n : Int)) (.int .i64 (n : Int))).run Try.prog w = .ok (.slice (some ⟨w.heap.size, 0, none⟩) n n) (w.alloc (.cells cur.toArray e)) := by
  obtain ⟨i, z, hi, hz, hs, hby, hzs⟩ := parts_of h
  refine ⟨(madeCells z.cells (n * k)).toList, by simp [size_madeCells], fun w => ?_⟩
  have hm : (n : Int) * (by' : Int) ≤ 1048576 * 1000 := by
    have : n * by' ≤ 1048576 * 1000 := Nat.mul_le_mul hn hb
    omega
  have := run_make w t e i z hu hi hz .i64 .i64 (n : Int) (n : Int) (by omega) (by omega) (by rw [hby]; rw [Int.mul_comm] at hm; omega) (by omega)
  rw [this]
  simp [hs]

/-! ### What is kept -/
theorem owns_kept {w w' : World} {base e k n : Nat} {v : Value} {xs : List Value} (h : w.ownsRow base e k v n xs) (hk : ∀ b, base ≤ b → b < w.heap.size → w'.heap[b]? = w.heap[b]?) : w'.ownsRow base e k v n xs := by
  obtain ⟨h1, h2⟩ := h
  refine ⟨h1, ?_⟩
  rcases h2 with h2 | ⟨g, cap, cur, hv, hb, hg, hr⟩
  · exact .inl h2
  · refine .inr ⟨g, cap, cur, hv, hb, ?_, hr⟩
    rw [hk g hb ?_]; exact hg
    rcases Nat.lt_or_ge g w.heap.size with h' | h'
    · exact h'
    · rw [Array.getElem?_eq_none h'] at hg; cases hg
end Go.Proofs.Qxb6619005a
