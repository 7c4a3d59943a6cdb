/- One part, as plain data and in memory; the class of a part; zzlaws' partClass. -/
import Derived.Test.Qxb6613844aFmtProg
import Derived.WalkKit
import Derived.WalkSpells
import Derived.WalkLawsBesides
import Derived.Outline
namespace Go.Proofs.Qxb6613844aFmt
open Go.RowKit

structure LP where
  ty : ByteArray
  tx : ByteArray
  rf : ByteArray
  iu : ByteArray
  fi : Option Addr
  dt : ByteArray
  bp : Option Addr

def sInput : List UInt8 := [105, 110, 112, 117, 116, 95, 116, 101, 120, 116]
def sOutput : List UInt8 := [111, 117, 116, 112, 117, 116, 95, 116, 101, 120, 116]
def sRefusal : List UInt8 := [114, 101, 102, 117, 115, 97, 108]
def sAssistant : List UInt8 := [97, 115, 115, 105, 115, 116, 97, 110, 116]
def sUser : List UInt8 := [117, 115, 101, 114]
def sTool : List UInt8 := [116, 111, 111, 108]

def cls (role : ByteArray) (p : LP) : Int :=
  if (p.ty.toList == sInput || p.ty.toList == sOutput) = true then 0
  else if (p.ty.toList == sRefusal) = true then (if (role.toList == sAssistant) = true then 1 else 2)
  else if (!(role.toList == sUser) && !(role.toList == sTool)) = true then 2
  else if (p.iu.toList.isEmpty || p.fi.isSome) = true then 2
  else 3

theorem ret_int {k : IntKind} {a b : Int} (h : a = b) : Ending.returned (.int k a) = .returned (.int k b) := by rw [h]

theorem class_any (role : ByteArray) (p : LP) (w : World) : Calls Tryf.prog 13 #[.string role, .agg #[.string p.ty, .string p.tx, .string p.rf, .string p.iu, .pointer p.fi, .string p.dt, .pointer p.bp]] w fun e w' => e = .returned (.int .i64 (cls role p)) ∧ ∃ cs, w' = w.alloc (.cells cs 46) := by
  obtain ⟨ty, tx, rf, iu, fi, dt, bp⟩ := p
  go_enter Tryf.func13, Tryf.ntmps13
  go_wp2
  all_goals
    go_ret
    refine ⟨ret_int ?_, _, rfl⟩
    simp_all [cls, sInput, sOutput, sRefusal, sAssistant, sUser, sTool]
end Go.Proofs.Qxb6613844aFmt
