import Derived.Test.Qxb6619005aSeg
import Derived.Deep.DeepCutAuto
import Derived.Deep.CutBlock
import Derived.Deep.CutRange
import Derived.Deep.Light
namespace Go.Proofs.Qxb6619005a
open Go.RowKit

/-- The branches that lie in a code, one behind the other, outside of loops and branches. -/
def conds : Code → List Code
  | .seq a b => conds a ++ conds b
  | .scope c => conds c
  | .cond o a b => [.cond o a b]
  | _ => []
/-- The blocks likewise. -/
def blocks : Code → List Code
  | .seq a b => blocks a ++ blocks b
  | .scope c => blocks c
  | .block n c => [.block n c]
  | _ => []
def thenOf : Code → Code
  | .cond _ a _ => a
  | c => c
noncomputable def piece6 (k : Nat) : Code := ((Try.f6.body.map conds).getD [])[k]?.getD .skip
noncomputable def piece6d (k : Nat) : Code := (conds (thenOf (piece6 4)))[k]?.getD .skip
noncomputable def piece7 (k : Nat) : Code := ((Try.f7.body.map blocks).getD [])[k]?.getD .skip
example : ((Try.f6.body.map conds).getD []).length = 8 := by rfl
example : (conds (thenOf (piece6 4))).length = 3 := by rfl
example : ((Try.f7.body.map blocks).getD []).length = 7 := by rfl
example : ((Try.f7.body.map conds).getD []).length = 1 := by rfl
end Go.Proofs.Qxb6619005a
