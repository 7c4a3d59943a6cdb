/-
  DERIVED. GIVEN WITH THE SEED: THE CARDS: each row of Qxb6613869aDoorRows.lean that lists a variable, with what it lists TIED to the program's text (the seventh form; the later family's looks); each row that meets fmt, with fmt's text TOLD by the authors' own Lean function (tested against real Go, not proved from fmt's source: count such statements apart). THE CARD IS WHAT COUNTS. Prove the row's statement (the work); the ties are given (Qxb6613869aDoorTie.lean); close each card by the builder's one call (the guide's Derived/Test/ToyasCard.lean, 'card_holds'). Laid BY PROGRAM, IN A SANDBOX (cutbox-door.mjs). By AI agents, Wed Nov 11 2026. No macro, syntax, notation, axiom, sorry.
-/
import Derived.Test.Qxb6613869aDoorRows
import GoSem.ClaimSeven
namespace Go.Proofs.Qxb6613869aDoor
namespace Rows

/-- THE TIED CARD OF 'zzlaws_internal_storage_b1.FnDirFormatKeepsOrderOfFormats'. -/
def fnDirFormatKeepsOrderOfFormatsCard : Claim7 := { stood := { row := fnDirFormatKeepsOrderOfFormatsRow, standIns := [], harness := (true, "a338e772c49b41322b8807d6a13f548dc595d3f8e60171c51788284656710fb4"), looks := false }, kinds := [], alts := [], laidByText := true, laidKinds := [.data, .data, .data], laidTests := true, laidLooks := .later }
def FnDirFormatKeepsOrderOfFormatsCardSaid : Prop := Claim7.holds Tryd.pinned (.plain (OpenSpec.ofChange fnDirFormatKeepsOrderOfFormatsSpec)) fnDirFormatKeepsOrderOfFormatsCard
end Rows
end Go.Proofs.Qxb6613869aDoor
