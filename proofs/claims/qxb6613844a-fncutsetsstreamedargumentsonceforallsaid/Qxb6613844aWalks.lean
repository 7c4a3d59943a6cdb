/- The project's functions on the road of FnCutSetsStreamedArgumentsOnceForAll. -/
import Derived.Test.Qxb6613844aBuilder
import Derived.Deep.RegionWith
namespace Go.Proofs.Qxb6613844a
open Go.RowKit

theorem byteCells_toList (s : ByteArray) : Lib.strCells s = Lib.byteCells s.data.toList := by
  unfold Lib.strCells Lib.byteCells
  rfl

set_option maxHeartbeats 1000000 in
theorem zz_any (a0 a1 a2 a3 a4 a5 a6 a7 : ByteArray) (a8 : Int) (w : World) (w0 : a0.size ≤ 9223372036854775807) (w1 : a1.size ≤ 9223372036854775807) (w2 : a2.size ≤ 9223372036854775807) (w3 : a3.size ≤ 9223372036854775807) (w4 : a4.size ≤ 9223372036854775807) (w5 : a5.size ≤ 9223372036854775807) (w6 : a6.size ≤ 9223372036854775807) (w7 : a7.size ≤ 9223372036854775807) :
    Calls Try.prog 4 #[.string a0, .string a1, .string a2, .string a3, .string a4, .string a5, .string a6, .string a7, .int .i64 a8] w fun e w' => ∃ b : Bool, e = .returned (.bool b) ∧ w = w' ∧ (b = true → a0.size + a1.size + a2.size + a3.size + a4.size + a5.size + a6.size + a7.size ≤ 1048576) := by
  go_enter Try.func4, Try.ntmps4
  go_wp2
  all_goals (go_ret; exact ⟨_, rfl, rfl, by intro h; first | (cases h; done) | omega⟩)

theorem grow_yes (n m : Int) (w : World) (h0 : 0 ≤ n) (h1 : 0 ≤ m) (h2 : n + m ≤ 1048576) : Calls Try.prog 8 #[.int .i64 n, .int .i64 m] w fun e w' => e = .returned (.int .i64 (n + m)) ∧ w = w' := by
  have h3 : m ≤ 1048576 - n := by omega
  go_enter Try.func8, Try.ntmps8
  go_wp2
  go_ret
  exact ⟨rfl, rfl⟩

set_option maxHeartbeats 1000000 in
theorem big_no (a0 a1 a2 a3 a4 a5 a6 a7 a8 : ByteArray) (w : World) (h : a0.size + a1.size + a2.size + a3.size + a4.size + a5.size + a6.size + a7.size + a8.size ≤ 1048576) :
    Calls Try.prog 5 #[.string a0, .string a1, .string a2, .string a3, .string a4, .string a5, .string a6, .string a7, .string a8] w fun e w' => e = .returned (.bool false) ∧ w = w' := by
  have w0 : a0.size ≤ 1048576 := by omega
  have w1 : a1.size ≤ 1048576 := by omega
  have w2 : a2.size ≤ 1048576 := by omega
  have w3 : a3.size ≤ 1048576 := by omega
  have w4 : a4.size ≤ 1048576 := by omega
  have w5 : a5.size ≤ 1048576 := by omega
  have w6 : a6.size ≤ 1048576 := by omega
  have w7 : a7.size ≤ 1048576 := by omega
  have w8 : a8.size ≤ 1048576 := by omega
  go_enter Try.func5, Try.ntmps5
  go_wp2_with (go_at_call 8; refine (grow_yes _ _ _ (by omega) (by omega) (by omega)).mono ?_; rintro e w' ⟨rfl, rfl⟩)
  go_ret
  exact ⟨rfl, rfl⟩

theorem new_any (ip : Value) (ix : Int) (s : ByteArray) (w : World) (hlen : s.size ≤ 140737488355328) (N : Nat) (hip : ip = .pointer (some ⟨N, 0, none⟩)) :
    Calls Try.prog 6 #[ip, .int .i64 ix, .string s] w fun e w' => e = .returned (.pointer (some ⟨w.heap.size, 0, none⟩)) ∧ Sfc w.heap.size w.heap.size ip (.int .i64 ix) (.pointer (some ⟨w.heap.size, 2, none⟩)) (Lib.strCells s) w' ∧ Below w.heap.size w w' := by
  subst hip
  have hb : (w.alloc (.cells #[.pointer (some ⟨N, 0, none⟩), .int .i64 ix, .pointer none, .slice none 0 0] 36)).heap[w.heap.size]? = some (.cells #[.pointer (some ⟨N, 0, none⟩), .int .i64 ix, .pointer none, .slice none 0 0] 36 (0, 0)) := heap_alloc_new w _
  go_enter Try.func6, Try.ntmps6
  go_wp2_with (go_at_call 9; refine (write_any w.heap.size _ _ s _ hb hlen).mono ?_; rintro e w1 ⟨rfl, hS, hB⟩)
  go_ret
  exact ⟨rfl, hS, ((Below.refl _ w).alloc (Nat.le_refl _) _).trans hB⟩

end Go.Proofs.Qxb6613844a
