/- The law where the parts are nil. -/
import Derived.Test.Qxb6613844aFmtZz
import Derived.Test.Qxb6613844aFmtBig
namespace Go.Proofs.Qxb6613844aFmt
open Go.RowKit
attribute [local go_sem] eqlNil22 eqlNil25 eqlNil29 neqNil29

set_option maxHeartbeats 4000000 in
set_option maxRecDepth 100000 in
theorem bytes_nil (role text path : ByteArray) (w : World) :
    Calls Tryf.prog 5 #[.string role, .string text, .slice none 0 0, .string path] w fun e w' => Below w.heap.size w w' ∧ ∃ b, e = .returned (.bool b) := by
  go_enter Tryf.func5, Tryf.ntmps5
  go_wp2
  all_goals try (go_ret; first | exact ⟨Below.refl _ _, _, rfl⟩ | exact ⟨Below.refl _ _, .inl rfl⟩ | exact ⟨Below.refl _ _, .inr rfl⟩)
  go_loopw [9, 10] (fun n i wr => ∃ N : Int, 0 ≤ N ∧ N ≤ 1048576 ∧ n = .int .i64 N ∧ i = .int .i64 0 ∧ Below w.heap.size w wr) (fun _ _ _ => 0)
  case atStart => exact ⟨_, by omega, by omega, rfl, rfl, Below.refl _ _⟩
  case round =>
    obtain ⟨N, h0, h1, rfl, rfl, hB⟩ := hrel
    go_wp2
    all_goals (go_ret; first | exact ⟨hB, _, rfl⟩ | exact ⟨hB, .inl rfl⟩ | exact ⟨hB, .inr rfl⟩)

set_option maxHeartbeats 4000000 in
set_option maxRecDepth 100000 in
theorem big_nil (role text path : ByteArray) (w : World) :
    Calls Tryf.prog 6 #[.string role, .string text, .string path, .slice none 0 0] w fun e w' => Below w.heap.size w w' ∧ ∃ b, e = .returned (.bool b) := by
  go_enter Tryf.func6, Tryf.ntmps6
  go_wp2_with (go_at_call 20; refine (grow_any _ _ _ (by omega) (by omega)).mono ?_; rintro e w' ⟨rfl, z, hz0, hz1, rfl⟩)
  · go_ret
    first | exact ⟨Below.refl _ _, _, rfl⟩ | exact ⟨Below.refl _ _, .inl rfl⟩ | exact ⟨Below.refl _ _, .inr rfl⟩
  go_loopw [9, 10] (fun n i wr => ∃ N : Int, n = .int .i64 N ∧ i = .int .i64 0 ∧ Below w.heap.size w wr) (fun _ _ _ => 0)
  case atStart => exact ⟨_, rfl, rfl, Below.refl _ _⟩
  case round =>
    obtain ⟨N, rfl, rfl, hB⟩ := hrel
    go_wp2
    all_goals (go_ret; first | exact ⟨hB, _, rfl⟩ | exact ⟨hB, .inl rfl⟩ | exact ⟨hB, .inr rfl⟩)

theorem tor_nil (w : World) : Calls Tryf.prog 7 #[.slice none 0 0] w fun e w' => e = .returned (.slice none 0 0) ∧ w = w' := by
  go_enter Tryf.func7, Tryf.ntmps7
  go_wp2
  go_ret
  exact ⟨rfl, rfl⟩

set_option maxHeartbeats 4000000 in
set_option maxRecDepth 100000 in
theorem law_nil (role text path : ByteArray) (w : World) :
    Calls Tryf.prog 3 #[.string role, .string text, .slice none 0 0, .string path] w fun e w' => e = .returned (.bool true) ∧ Below w.heap.size w w' := by
  go_enter Tryf.func3, Tryf.ntmps3
  go_wp2_with fail
  refine (bytes_nil role text path w).mono ?_
  rintro e w0 ⟨hB0, b, rfl⟩
  cases b with
  | false =>
    go_wp2
    go_ret
    exact ⟨rfl, hB0⟩
  | true =>
  go_wp2_with fail
  refine (big_nil role text path w0).mono ?_
  rintro e w1 ⟨hB1, b, rfl⟩
  have hB01 : Below w.heap.size w w1 := hB0.trans (hB1.mono hB0.size)
  cases b with
  | true =>
    go_wp2
    go_ret
    exact ⟨rfl, hB01⟩
  | false =>
  go_wp2_with fail
  refine (tor_nil w1).mono ?_
  rintro e w2 ⟨rfl, rfl⟩
  go_wp2_with fail
  refine (zz_nil role text path w1).mono ?_
  rintro e w3 ⟨hB3, q, rfl, h0, h1⟩
  go_wp2
  go_ret
  exact ⟨rfl, hB01.trans (hB3.mono hB01.size)⟩
end Go.Proofs.Qxb6613844aFmt
