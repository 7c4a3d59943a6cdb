/- The contract of decision.indexSlots and of its exported twin. -/
import Derived.Test.Qxb6613375aShelf
import Derived.Test.Qxb6613375aPlain
import Derived.WalkKit
namespace Go.Proofs.Qxb6613375a
open Go.RowKit

theorem wrap_slots (n : Int) (h1 : n ≤ 2305843009213693951) : wrap64 (2 ^ Lib.bitLen (2 * n).toNat) = slots n := by
  have hm := slots_max n h1
  have hp := slots_pos n
  show wrap64 (slots n) = slots n
  unfold wrap64
  omega

theorem ret_int {k : IntKind} {a b : Int} (h : a = b) : Ending.returned (.int k a) = .returned (.int k b) := by rw [h]

theorem idx_low (n : Int) (h0 : 0 ≤ n) (h1 : n ≤ 2305843009213693951) (w : World) :
    Calls Try.prog 11 #[.int .i64 n] w fun e w' => e = .returned (.int .i64 (slots n)) ∧ w = w' := by
  have hL := len_le n h1
  go_enter Try.func11, Try.ntmps11
  go_wp2_with (go_at_call 12; refine (Try.bits_Len _ _ (by omega) (by omega)).mono ?_; rintro e w' ⟨rfl, rfl⟩)
  go_ret
  exact ⟨ret_int (wrap_slots n h1), rfl⟩

theorem idx_any (n : Int) (h0 : 0 ≤ n) (h1 : n ≤ 2305843009213693951) (w : World) :
    Calls Try.prog 6 #[.int .i64 n] w fun e w' => e = .returned (.int .i64 (slots n)) ∧ w = w' := by
  go_enter Try.func6, Try.ntmps6
  go_wp2_with (go_at_call 11; refine (idx_low _ h0 h1 _).mono ?_; rintro e w' ⟨rfl, rfl⟩)
  go_ret
  exact ⟨rfl, rfl⟩

end Go.Proofs.Qxb6613375a
