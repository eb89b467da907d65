import Derived.Test.Qxb6619005aPark
namespace Go.Proofs.Qxb6619005a
open Go.RowKit
noncomputable def piece7c : Code := ((Try.f7.body.map conds).getD [])[0]?.getD .skip
noncomputable def piece7d (k : Nat) : Code := (blocks (thenOf piece7c))[k]?.getD .skip
example : (blocks (thenOf piece7c)).length = 3 := by rfl
theorem there_drewE {w : World} {b o k : Nat} (h : w.there b o k) : w.drew.there b o k := h
theorem cell_setCells_farE {w : World} {p : Addr} {v : Value} (h : w.cell? p = some v) {g : Nat} (hne : p.block ≠ g) (o : Nat) (vs : List Value) : (w.drew.setCells g o vs).cell? p = some v := cell_setCells_far (w := w.drew) h hne o vs
end Go.Proofs.Qxb6619005a
