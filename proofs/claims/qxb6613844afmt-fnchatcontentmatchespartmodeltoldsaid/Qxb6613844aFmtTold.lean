/- What fmt tells for a part's path, and how long it is. -/
import Derived.Test.Qxb6613844aFmtMid
import Derived.Stop.Texts
import Derived.Stop.JoinedTold
import Derived.Stop.FmtTextKit
import Derived.Stop.FmtTextVerbs
namespace Go.Proofs.Qxb6613844aFmt
open Go.RowKit Go.Kit Go.Extern.Stop Go.Stop Go.Extern

theorem path_parse : (FmtText.parse [37, 115, 91, 37, 100, 93]).map FmtText.glue = some [.verb {} 115, .lit [91], .verb {} 100, .lit [93]] := by rfl

theorem path_text (path : List UInt8) (k : Nat) (hs : path.length < 2 ^ 64) (hk : k ≤ 1048576) :
    FmtText.text "fmt.Sprintf" [[37, 115, 91, 37, 100, 93], shape9, FmtStop.pack path, shape3, Go.Extern.Stop.digits 8 ((k : Int) % 18446744073709551616).toNat] = some (path ++ (91 :: (Lib.itoa k ++ [93]))) := by
  have hw : (Lit.int .i64 (k : Int)).wf = true := by simp [Lit.wf, IntKind.min, IntKind.max, IntKind.signed, IntKind.bits] <;> omega
  have hi := FmtText.operand_int_at (sh := shape3) (k := .i64) rfl rfl (k : Int) hw
  have hn := FmtText.operand_str_at (sh := shape9) rfl rfl path hs
  rw [FmtText.text_sprintf_glued path_parse (FmtText.operands_cons hn (FmtText.operands_cons hi FmtText.operands_nil))]
  simp [FmtText.render, FmtText.printArg_d _ _ hw, FmtText.printArg_s_str]

theorem ppath_size (F : Interp) (path : ByteArray) (k : Nat) (hs : path.size ≤ 1048576) (hk : k ≤ 1048576) : (ppath F.told path k).size ≤ 2000000 := by
  have hl : path.data.toList.length ≤ 1048576 := by rw [Array.length_toList]; exact hs
  have h21 := Lib.itoa_length_le (k : Int) (by omega) (by omega)
  have ht := told_string F (path_text path.data.toList k (by omega) hk) (by simp; omega)
  rw [← textOf_list] at ht
  have hz := congrArg List.length ht
  rw [Array.length_toList] at hz
  have e : (ppath F.told path k).size = (path.data.toList ++ (91 :: (Lib.itoa k ++ [93]))).length := hz
  rw [e, List.length_append, List.length_cons, List.length_append, List.length_singleton]
  omega
end Go.Proofs.Qxb6613844aFmt
