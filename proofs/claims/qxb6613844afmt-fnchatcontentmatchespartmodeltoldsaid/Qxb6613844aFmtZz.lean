/- translate.chatContent where there are no parts; ZZchatContent. -/
import Derived.Test.Qxb6613844aFmtMid
namespace Go.Proofs.Qxb6613844aFmt
open Go.RowKit Go.Extern.Stop Go.Stop Go.Extern
attribute [local go_sem] eqlNil25 neqNil29

/-- What comes back where there are no parts. -/
def NilOut (text : ByteArray) (w w' : World) (e : Ending) : Prop :=
  Below w.heap.size w w' ∧ ∃ q, e = .returned (.tuple #[.pointer (some ⟨q, 0, none⟩), .pointer none, .slice none 0 0, .nilIface]) ∧ w'.cell? ⟨q, 0, none⟩ = some (.string text) ∧ w'.cell? ⟨q, 1, none⟩ = some (.slice none 0 0)

set_option maxRecDepth 100000 in
theorem chat_nil (role text path : ByteArray) (w : World) :
    Calls Tryf.prog 21 #[.string role, .agg #[.string text, .slice none 0 0], .string path] w fun e w' => NilOut text w w' e := by
  go_enter Tryf.func21, Tryf.ntmps21
  go_wp2
  refine bodyPost_ret (v := .tuple #[.pointer (some ⟨w.heap.size + 1, 0, none⟩), .pointer none, .slice none 0 0, .nilIface]) (by simp [results, Tryf.results21, go_sem]) rfl ⟨((Below.refl _ w).alloc (Nat.le_refl _) _).alloc (by simp) _, _, rfl, ?_, ?_⟩
  · have hz : (w.alloc (.cells #[.string text, .slice none 0 0] 35)).heap.size = w.heap.size + 1 := by simp
    have := heap_alloc_new (w.alloc (.cells #[.string text, .slice none 0 0] 35)) (.cells #[.string text, .slice none 0 0] 37)
    rw [hz] at this
    rw [Lib.cell_of_heap this]; rfl
  · have hz : (w.alloc (.cells #[.string text, .slice none 0 0] 35)).heap.size = w.heap.size + 1 := by simp
    have := heap_alloc_new (w.alloc (.cells #[.string text, .slice none 0 0] 35)) (.cells #[.string text, .slice none 0 0] 37)
    rw [hz] at this
    rw [Lib.cell_of_heap this]; rfl

theorem zz_nil (role text path : ByteArray) (w : World) :
    Calls Tryf.prog 8 #[.string role, .agg #[.string text, .slice none 0 0], .string path] w fun e w' => NilOut text w w' e := by
  go_enter Tryf.func8, Tryf.ntmps8
  go_wp2_with fail
  refine (chat_nil role text path _).mono ?_
  rintro e w' ⟨hB, q, rfl, h0, h1⟩
  go_wp2
  exact bodyPost_ret (v := .tuple #[.pointer (some ⟨q, 0, none⟩), .pointer none, .slice none 0 0, .nilIface]) (by simp [results, Tryf.results8, go_sem]) rfl ⟨(((Below.refl _ w).alloc (Nat.le_refl _) _).trans (hB.mono (by simp))), q, rfl, h0, h1⟩

theorem zz_low (role text path : ByteArray) (a : Addr) (cap : Nat) (qs : List LP) (w : World)
    (H : ∀ w1, Below w.heap.size w w1 → Calls Tryf.prog 21 #[.string role, .agg #[.string text, .slice (some a) qs.length cap], .string path] w1 fun e w' => ChatOut role qs w1 w' e) :
    Calls Tryf.prog 8 #[.string role, .agg #[.string text, .slice (some a) qs.length cap], .string path] w fun e w' => ChatOut role qs w w' e := by
  go_enter Tryf.func8, Tryf.ntmps8
  go_wp2_with fail
  refine (H _ ?_).mono ?_
  · exact (Below.refl _ w).alloc (Nat.le_refl _) _
  rintro e w' ⟨hB, h⟩
  rcases h with ⟨h1, q, rfl⟩ | ⟨h1, c, r, ia, ic, EP, EI, rfl, h2⟩
  · go_wp2
    exact bodyPost_ret (v := .tuple #[.pointer none, .pointer none, .slice none 0 0, .iface 68 (.pointer (some ⟨q, 0, none⟩))]) (by simp [results, Tryf.results8, go_sem]) rfl ⟨(((Below.refl _ w).alloc (Nat.le_refl _) _).trans (hB.mono (by simp))), .inl ⟨h1, q, rfl⟩⟩
  · go_wp2
    exact bodyPost_ret (v := .tuple #[.pointer c, .pointer r, .slice ia EI.length ic, .nilIface]) (by simp [results, Tryf.results8, go_sem]) rfl ⟨(((Below.refl _ w).alloc (Nat.le_refl _) _).trans (hB.mono (by simp))), .inr ⟨h1, c, r, ia, ic, EP, EI, rfl, h2⟩⟩
end Go.Proofs.Qxb6613844aFmt
