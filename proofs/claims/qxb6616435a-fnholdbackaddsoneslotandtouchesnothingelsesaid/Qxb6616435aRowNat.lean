import Derived.Test.Qxb6616435aBack
import Derived.OpenShut
namespace Go.Proofs.Qxb6616435a
open Go.RowKit

/-- A slice of bytes that came in, its elements as naturals. -/
theorem rowNat {w : World} {a : Option Addr} {len cap : Nat} {zs : List Int}
    (h : (a = none ∧ len = 0 ∧ cap = 0 ∧ zs = []) ∨ ∃ x, a = some x ∧ len ≤ cap ∧ cap ≤ maxLen ∧ zs.length = cap ∧ (∀ i, i < zs.length → w.cell? (x.add i) = some (.int .u8 (zs.getD i 0))) ∧ ∀ n ∈ zs, (Lit.int .u8 n).wf = true) :
    len ≤ maxLen ∧ ∃ es : List Nat, es.length = len ∧ (∀ e ∈ es, e < 256) ∧ (0 < len → ∃ b o, a = some ⟨b, o, none⟩ ∧ ∀ j, j < len → w.cell? ⟨b, o + j, none⟩ = some (.int .u8 ((es.getD j 0 : Nat) : Int))) := by
  rcases h with ⟨_, rfl, _, _⟩ | ⟨x, rfl, h1, h2, h3, h4, h5⟩
  · exact ⟨Nat.zero_le _, [], rfl, fun e he => by simp at he, fun h => absurd h (by omega)⟩
  · refine ⟨by omega, (zs.take len).map Int.toNat, by simp; omega, ?_, ?_⟩
    · intro e he
      obtain ⟨z, hz, rfl⟩ := List.mem_map.1 he
      have := bounds_u8 (h5 z (List.mem_of_mem_take hz))
      omega
    · intro hpos
      obtain ⟨b, o, rfl, hc⟩ := ints_at h4 (by omega)
      refine ⟨b, o, rfl, fun j hj => ?_⟩
      rw [hc j (by omega)]
      have hj2 : j < zs.length := by omega
      have hb := bounds_u8 (h5 zs[j] (List.getElem_mem hj2))
      have e1 : zs.getD j 0 = zs[j] := by rw [List.getD_eq_getElem?_getD, List.getElem?_eq_getElem hj2]; rfl
      have e2 : ((zs.take len).map Int.toNat).getD j 0 = (zs[j]).toNat := by
        rw [List.getD_eq_getElem?_getD, List.getElem?_map, List.getElem?_take_of_lt hj, List.getElem?_eq_getElem hj2]; rfl
      rw [e1, e2, Int.toNat_of_nonneg hb.1]
end Go.Proofs.Qxb6616435a
