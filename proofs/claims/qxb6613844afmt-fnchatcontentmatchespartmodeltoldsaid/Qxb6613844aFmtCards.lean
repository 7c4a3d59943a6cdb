/-
  DERIVED. GIVEN WITH THE SEED: THE CARDS: each row of Qxb6613844aFmtRows.lean that lists a variable, with what it lists TIED to the program's text (the seventh form; the later family's looks); each row that meets fmt, with fmt's text TOLD by the authors' own Lean function (tested against real Go, not proved from fmt's source: count such statements apart). THE CARD IS WHAT COUNTS. Prove the row's statement (the work); the ties are given (Qxb6613844aFmtTie.lean); close each card by the builder's one call (the guide's Derived/Test/ToyasCard.lean, 'card_holds'). Laid BY PROGRAM, IN A SANDBOX (cutbox-door.mjs). By AI agents, Wed Nov 11 2026. No macro, syntax, notation, axiom, sorry.
-/
import Derived.Test.Qxb6613844aFmtRows
import GoSem.ClaimSeven
namespace Go.Proofs.Qxb6613844aFmt
namespace Rows

/-- THE TOLD CARD OF 'zzlaws_translate_b1.FnChatContentMatchesPartModel'. -/
def fnChatContentMatchesPartModelCard : Claim7 := { stood := { row := fnChatContentMatchesPartModelRow, standIns := [], harness := (true, "c2ca89544ccf2cd3cc36d73e30c124b86a8f0c5335356f7f4044c1aef370e7d2"), looks := false }, told := true, goes := false }
def FnChatContentMatchesPartModelToldSaid : Prop := Claim7.holds Tryf.pinned (.plain (OpenSpec.ofChange fnChatContentMatchesPartModelSpec)) fnChatContentMatchesPartModelCard
/-- ITS FALSE NEIGHBOUR. Refute it at one input. -/
def FnChatContentMatchesPartModelToldWrongFalsely : Prop := Claim7.holds Tryf.pinned (.plain (OpenSpec.ofChange fnChatContentMatchesPartModelWrong)) fnChatContentMatchesPartModelCard

/-- THE TOLD CARD OF 'zzlaws_translate_b1.FnChatContentSplitsAtAnyCut'. -/
def fnChatContentSplitsAtAnyCutCard : Claim7 := { stood := { row := fnChatContentSplitsAtAnyCutRow, standIns := [], harness := (true, "c2ca89544ccf2cd3cc36d73e30c124b86a8f0c5335356f7f4044c1aef370e7d2"), looks := false }, told := true, goes := false }
def FnChatContentSplitsAtAnyCutToldSaid : Prop := Claim7.holds Tryf.pinned (.plain (OpenSpec.ofChange fnChatContentSplitsAtAnyCutSpec)) fnChatContentSplitsAtAnyCutCard
/-- ITS FALSE NEIGHBOUR. Refute it at one input. -/
def FnChatContentSplitsAtAnyCutToldWrongFalsely : Prop := Claim7.holds Tryf.pinned (.plain (OpenSpec.ofChange fnChatContentSplitsAtAnyCutWrong)) fnChatContentSplitsAtAnyCutCard
end Rows
end Go.Proofs.Qxb6613844aFmt
