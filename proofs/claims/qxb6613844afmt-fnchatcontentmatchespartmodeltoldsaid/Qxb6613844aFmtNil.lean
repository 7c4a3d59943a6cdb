/- Slices held against nil, at this program's types. -/
import Derived.Test.Qxb6613844aFmtProg
import Derived.WalkKit
import Derived.WalkSpells
import Derived.Lib.SliceRun
namespace Go.Proofs.Qxb6613844aFmt
theorem eqlNil22 (w : World) (a : Option Addr) (n c : Nat) : (binOp .eql 22 (.slice a n c) (.slice none 0 0)).run Tryf.prog w = .ok (.bool a.isNone) w := Lib.run_eql_slice_nil w 22 46 a n c 0 0 Tryf.underlying22
theorem eqlNil25 (w : World) (a : Option Addr) (n c : Nat) : (binOp .eql 25 (.slice a n c) (.slice none 0 0)).run Tryf.prog w = .ok (.bool a.isNone) w := Lib.run_eql_slice_nil w 25 53 a n c 0 0 Tryf.underlying25
theorem eqlNil29 (w : World) (a : Option Addr) (n c : Nat) : (binOp .eql 29 (.slice a n c) (.slice none 0 0)).run Tryf.prog w = .ok (.bool a.isNone) w := Lib.run_eql_slice_nil w 29 51 a n c 0 0 Tryf.underlying29
theorem neqNil29 (w : World) (a : Option Addr) (n c : Nat) : (binOp .neq 29 (.slice a n c) (.slice none 0 0)).run Tryf.prog w = .ok (.bool a.isSome) w := by
  rw [run_neq_slice_nil_any w 29 51 a n c 0 0 Tryf.underlying29]
  cases a <;> rfl
end Go.Proofs.Qxb6613844aFmt
