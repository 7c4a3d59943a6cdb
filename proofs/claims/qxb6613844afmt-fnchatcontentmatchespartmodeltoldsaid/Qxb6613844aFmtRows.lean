/-
  No cell of these rows narrows 'for every input' (looked for: loops, veiled, ifaces, maps, wideKeys, modest, calm, conditions, laid).
  DERIVED. THE GIVEN ROWS OF THIS SEAT. 2 by the template 'for every input the law returns true; each argument reads behind the call as it read before'; 0 by the template 'total and deterministic' (their statements: Qxb6613844aFmtTotals.lean).
  GIVEN WITH THE SEED: the statements are not yours to turn. If you find one false, say at which input.
  Laid BY PROGRAM, IN A SANDBOX (cutbox-rows.mjs): the forced cells as the released guide's own fill.sh prints them over the translation 66599060bb94e57e… (all of the seat's roots in one cut). By AI agents, Wed Nov 11 2026. No macro, syntax, notation, axiom, sorry.
-/
import Derived.Test.Qxb6613844aFmtChecked
import GoSem.Claim
import GoSem.ClaimJoined
import GoSem.ClaimMapViews
import Derived.JoinedTies
import Derived.KernelRfl
namespace Go.Proofs.Qxb6613844aFmt
/- THE CELL 'sum', in the pinned program and in every row, IS THE sha256 OF THE DUMP (.gsa) THAT Qxb6613844aFmtProg.lean LOADS. Nothing in Lean hashes anything: it is a label: what it is worth is what the hold of that sum in a sandbox is worth. -/
noncomputable def Tryf.pinned : Pinned := { name := "qxb6613844afmt", sum := "66599060bb94e57ee63c976dceb574cf1454526bab62139b3ae1a8acc9019c47", checked := Tryf.checked }
namespace Rows
def none {H : Type} : Left H := { results := [], args := [] }

/-- 'zzlaws_translate_b1.FnChatContentMatchesPartModel': WHATEVER THE INPUT: true; the input reads as it did. -/
def fnChatContentMatchesPartModelSpec : ChangeSpec := { name := "fnChatContentMatchesPartModel", fn := fun _ => fun
  | [d1, d2, d3, d4] => { results := [.lit (.bool true)], args := [d1, d2, d3, d4] }
  | _ => none }
def fnChatContentMatchesPartModelRow : OpenClaim := { program := "qxb6613844afmt", sum := "66599060bb94e57ee63c976dceb574cf1454526bab62139b3ae1a8acc9019c47", func := "example.com/utusan/utusan/zzlaws_translate_b1.FnChatContentMatchesPartModel", spec := "fnChatContentMatchesPartModel", stops := ["fmt.Sprintf, its operands' methods called"], inPlace := ["fmt.Sprintf", "internal/abi.NoEscape", "internal/bytealg.MakeNoZero"], unfollowed := true, recurses := true, apart := false }
/-- NO THEOREM (fmt's text is open here; it may be false): for the released tool's asking of the row's closed facts alone. THE STATEMENT IS 'FnChatContentMatchesPartModelToldSaid' (Qxb6613844aFmtCards.lean). -/
def FnChatContentMatchesPartModelFormAsk : Prop := fnChatContentMatchesPartModelRow.holds Tryf.pinned (OpenSpec.ofChange fnChatContentMatchesPartModelSpec)

/-- ITS FALSE NEIGHBOUR: 'it returns false'. Refute it at one input. -/
def fnChatContentMatchesPartModelWrong : ChangeSpec := { name := "fnChatContentMatchesPartModel", fn := fun _ => fun
  | [d1, d2, d3, d4] => { results := [.lit (.bool false)], args := [d1, d2, d3, d4] }
  | _ => none }
def FnChatContentMatchesPartModelWrongFormAsk : Prop := fnChatContentMatchesPartModelRow.holds Tryf.pinned (OpenSpec.ofChange fnChatContentMatchesPartModelWrong)

/-- 'zzlaws_translate_b1.FnChatContentSplitsAtAnyCut': WHATEVER THE INPUT: true; the input reads as it did. -/
def fnChatContentSplitsAtAnyCutSpec : ChangeSpec := { name := "fnChatContentSplitsAtAnyCut", fn := fun _ => fun
  | [d1, d2, d3, d4] => { results := [.lit (.bool true)], args := [d1, d2, d3, d4] }
  | _ => none }
def fnChatContentSplitsAtAnyCutRow : OpenClaim := { program := "qxb6613844afmt", sum := "66599060bb94e57ee63c976dceb574cf1454526bab62139b3ae1a8acc9019c47", func := "example.com/utusan/utusan/zzlaws_translate_b1.FnChatContentSplitsAtAnyCut", spec := "fnChatContentSplitsAtAnyCut", stops := ["fmt.Sprintf, its operands' methods called"], inPlace := ["fmt.Sprintf", "internal/abi.NoEscape", "internal/bytealg.MakeNoZero"], unfollowed := true, recurses := true, apart := false }
/-- NO THEOREM (fmt's text is open here; it may be false): for the released tool's asking of the row's closed facts alone. THE STATEMENT IS 'FnChatContentSplitsAtAnyCutToldSaid' (Qxb6613844aFmtCards.lean). -/
def FnChatContentSplitsAtAnyCutFormAsk : Prop := fnChatContentSplitsAtAnyCutRow.holds Tryf.pinned (OpenSpec.ofChange fnChatContentSplitsAtAnyCutSpec)

/-- ITS FALSE NEIGHBOUR: 'it returns false'. Refute it at one input. -/
def fnChatContentSplitsAtAnyCutWrong : ChangeSpec := { name := "fnChatContentSplitsAtAnyCut", fn := fun _ => fun
  | [d1, d2, d3, d4] => { results := [.lit (.bool false)], args := [d1, d2, d3, d4] }
  | _ => none }
def FnChatContentSplitsAtAnyCutWrongFormAsk : Prop := fnChatContentSplitsAtAnyCutRow.holds Tryf.pinned (OpenSpec.ofChange fnChatContentSplitsAtAnyCutWrong)

end Rows
end Go.Proofs.Qxb6613844aFmt
