/- What is left of the law's text from a region on. -/
import Derived.Test.Qxb6613844aFmtProg
namespace Go.Proofs.Qxb6613844aFmt

def firstRegion : Code → Option Nat
  | .region n _ _ => some n
  | .seq a _ => firstRegion a
  | .block _ c => firstRegion c
  | .loop c => firstRegion c
  | .scope c => firstRegion c
  | _ => none
def tailAt (r : Nat) : Code → Code
  | .seq a b => if firstRegion a = some r then .seq a b else tailAt r b
  | c => c
end Go.Proofs.Qxb6613844aFmt
