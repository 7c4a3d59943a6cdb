/- The law's three loops, taken out of the translation. -/
import Derived.Test.Qxb6613844aFmtProg
namespace Go.Proofs.Qxb6613844aFmt

def loopsOf : Code → List Code
  | .loop c => [c]
  | .seq a b => loopsOf a ++ loopsOf b
  | .block _ c => loopsOf c
  | .scope c => loopsOf c
  | .cond _ a b => loopsOf a ++ loopsOf b
  | _ => []
end Go.Proofs.Qxb6613844aFmt
