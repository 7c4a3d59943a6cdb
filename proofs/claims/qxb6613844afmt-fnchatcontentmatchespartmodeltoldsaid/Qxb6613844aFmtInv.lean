/- wire.InvalidRequest and translate.imageOutsideUser: an error that is not nil, whatever fmt gives. -/
import Derived.Test.Qxb6613844aFmtFmt
import Derived.WalkKit
import Derived.WalkSpells
import Derived.Outline
namespace Go.Proofs.Qxb6613844aFmt
open Go.RowKit Go.Extern.Stop Go.Stop Go.Extern
attribute [local go_sem] call22 guardAny act9_115 op9_115 act3_100 op3_100 str9 str3

theorem inv2 (F : Interp) (code param fmt x y : ByteArray) (b : Nat) (w : World) (hF : F.answers w.tape)
    (hp : FmtStop.printed? fmt 2 = some [(0, 115, false), (1, 115, false)])
    (c0 : w.cell? ⟨b, 0, none⟩ = some (.iface 9 (.string x))) (c1 : w.cell? ⟨b, 1, none⟩ = some (.iface 9 (.string y))) (hb : b < w.heap.size) :
    Calls Tryf.prog 24 #[.string code, .string param, .string fmt, .slice (some ⟨b, 0, none⟩) 2 2] w fun e w' => ∃ q : Nat, e = .returned (.pointer (some ⟨q, 0, none⟩)) ∧ Below w.heap.size w w' := by
  have hF' := answers_open hF
  go_enter Tryf.func24, Tryf.ntmps24
  go_wp2
  apply rows_value nextTurns
  case hr =>
    go_simp
    exact ⟨rfl, rfl⟩
  case h =>
    go_wp2
    all_goals
      go_ret
      exact ⟨_, rfl, (((Below.refl _ w).alloc (Nat.le_refl _) _).alloc (by simp) _).drew⟩

theorem inv1 (F : Interp) (code param fmt x : ByteArray) (b : Nat) (w : World) (hF : F.answers w.tape)
    (hp : FmtStop.printed? fmt 1 = some [(0, 115, false)])
    (c0 : w.cell? ⟨b, 0, none⟩ = some (.iface 9 (.string x))) (hb : b < w.heap.size) :
    Calls Tryf.prog 24 #[.string code, .string param, .string fmt, .slice (some ⟨b, 0, none⟩) 1 1] w fun e w' => ∃ q : Nat, e = .returned (.pointer (some ⟨q, 0, none⟩)) ∧ Below w.heap.size w w' := by
  have hF' := answers_open hF
  go_enter Tryf.func24, Tryf.ntmps24
  go_wp2
  apply rows_value nextTurns
  case hr =>
    go_simp
    exact ⟨rfl, rfl⟩
  case h =>
    go_wp2
    all_goals
      go_ret
      exact ⟨_, rfl, (((Below.refl _ w).alloc (Nat.le_refl _) _).alloc (by simp) _).drew⟩

theorem outside (F : Interp) (path role : ByteArray) (w : World) (hF : F.answers w.tape) :
    Calls Tryf.prog 25 #[.string path, .string role] w fun e w' => ∃ q : Nat, e = .returned (.pointer (some ⟨q, 0, none⟩)) ∧ Below w.heap.size w w' := by
  go_enter Tryf.func25, Tryf.ntmps25
  go_wp2_with fail
  refine (inv2 F _ _ _ path role w.heap.size _ (by exact hF) (by kernel_rfl) (by go_simp) (by go_simp) (by simp)).mono ?_
  rintro e w1 ⟨q, rfl, hB⟩
  go_wp2
  go_ret
  exact ⟨_, rfl, ((Below.refl _ w).alloc (Nat.le_refl _) _).trans (hB.mono (by simp))⟩
end Go.Proofs.Qxb6613844aFmt
