/-
  No cell of these rows narrows 'for every input' (looked for: loops, veiled, ifaces, maps, wideKeys, modest, calm, conditions, laid).
  DERIVED. THE GIVEN ROWS OF THIS SEAT. 1 by the template 'for every input the law returns true; each argument reads behind the call as it read before'; 0 by the template 'total and deterministic' (their statements: Qxb6613844aTotals.lean).
  GIVEN WITH THE SEED: the statements are not yours to turn. If you find one false, say at which input.
  Laid BY PROGRAM, IN A SANDBOX (cutbox-rows.mjs): the forced cells as the released guide's own fill.sh prints them over the translation 17f4a86362fcfb4a… (all of the seat's roots in one cut). By AI agents, Wed Nov 11 2026. No macro, syntax, notation, axiom, sorry.
-/
import Derived.Test.Qxb6613844aChecked
import GoSem.Claim
import GoSem.ClaimJoined
import GoSem.ClaimMapViews
import Derived.JoinedTies
import Derived.KernelRfl
namespace Go.Proofs.Qxb6613844a
/- THE CELL 'sum', in the pinned program and in every row, IS THE sha256 OF THE DUMP (.gsa) THAT Qxb6613844aProg.lean LOADS. Nothing in Lean hashes anything: it is a label: what it is worth is what the hold of that sum in a sandbox is worth. -/
noncomputable def Try.pinned : Pinned := { name := "qxb6613844a", sum := "17f4a86362fcfb4a0118ab47f985bc2a2931126ff04d35da443e825deec06d9c", checked := Try.checked }
namespace Rows
def none {H : Type} : Left H := { results := [], args := [] }

/-- 'zzlaws_translate_b1.FnCutSetsStreamedArgumentsOnceForAll': WHATEVER THE INPUT: true; the input reads as it did. -/
def fnCutSetsStreamedArgumentsOnceForAllSpec : ChangeSpec := { name := "fnCutSetsStreamedArgumentsOnceForAll", fn := fun _ => fun
  | [d1, d2, d3, d4, d5, d6, d7, d8, d9] => { results := [.lit (.bool true)], args := [d1, d2, d3, d4, d5, d6, d7, d8, d9] }
  | _ => none }
def fnCutSetsStreamedArgumentsOnceForAllRow : OpenClaim := { program := "qxb6613844a", sum := "17f4a86362fcfb4a0118ab47f985bc2a2931126ff04d35da443e825deec06d9c", func := "example.com/utusan/utusan/zzlaws_translate_b1.FnCutSetsStreamedArgumentsOnceForAll", spec := "fnCutSetsStreamedArgumentsOnceForAll", inPlace := ["internal/abi.NoEscape"], apart := false }
def FnCutSetsStreamedArgumentsOnceForAllSaid : Prop := fnCutSetsStreamedArgumentsOnceForAllRow.holds Try.pinned (OpenSpec.ofChange fnCutSetsStreamedArgumentsOnceForAllSpec)

/-- ITS FALSE NEIGHBOUR: 'it returns false'. Refute it at one input. -/
def fnCutSetsStreamedArgumentsOnceForAllWrong : ChangeSpec := { name := "fnCutSetsStreamedArgumentsOnceForAll", fn := fun _ => fun
  | [d1, d2, d3, d4, d5, d6, d7, d8, d9] => { results := [.lit (.bool false)], args := [d1, d2, d3, d4, d5, d6, d7, d8, d9] }
  | _ => none }
def FnCutSetsStreamedArgumentsOnceForAllWrongFalsely : Prop := fnCutSetsStreamedArgumentsOnceForAllRow.holds Try.pinned (OpenSpec.ofChange fnCutSetsStreamedArgumentsOnceForAllWrong)

end Rows
end Go.Proofs.Qxb6613844a
