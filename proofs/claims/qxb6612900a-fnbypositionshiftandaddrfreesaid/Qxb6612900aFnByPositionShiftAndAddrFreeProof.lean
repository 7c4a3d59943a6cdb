/- The proof of Rows.FnByPositionShiftAndAddrFreeSaid: the guide's shell, its hole filled. -/
import Derived.Test.Qxb6612900aRows
import Derived.WalkKit
import Derived.ProofKit
import Derived.OpenShut
import Derived.ShutString
namespace Go.Proofs.Qxb6612900a.fnByPositionShiftAndAddrFree
open Go.ChangeShapes Go.WideShapes Go.ChangeAt Go.RowKit
open Go.ChangeMaps (open_string shut_string)
set_option linter.unusedVariables false      -- a walk need not use every 'w<i>' (that an integer argument fits its kind)

theorem own : ownKnob Try.prog.godebug = none := by kernel_rfl

/-! ### THE PLAIN LAW: no Go in sight -/
def sgn (x y : Int) : Int := if x < y then -1 else if y < x then 1 else 0
theorem sgn_shift (x y d : Int) : sgn (x + d) (y + d) = sgn x y := by
  unfold sgn
  by_cases h : x < y
  · rw [if_pos h, if_pos (by omega)]
  · rw [if_neg h, if_neg (by omega)]
    by_cases h' : y < x
    · rw [if_pos h', if_pos (by omega)]
    · rw [if_neg h', if_neg (by omega)]

/-! ### THE CALLEES -/
theorem cmp_any (x y : Int) (w : World) : Calls Try.prog 8 #[.int .u64 x, .int .u64 y] w fun e w' => e = .returned (.int .i64 (sgn x y)) ∧ w = w' := by
  unfold sgn
  by_cases h : x < y
  · rw [if_pos h]
    go_enter Try.func8, Try.ntmps8
    go_wp2
    go_ret
    exact ⟨rfl, rfl⟩
  · rw [if_neg h]
    by_cases h' : y < x
    · rw [if_pos h']
      go_enter Try.func8, Try.ntmps8
      go_wp2
      go_ret
      exact ⟨rfl, rfl⟩
    · rw [if_neg h']
      go_enter Try.func8, Try.ntmps8
      go_wp2
      go_ret
      exact ⟨rfl, rfl⟩
theorem sign_any (x y : Int) (w : World) : Calls Try.prog 6 #[.int .u64 x, .int .u64 y] w fun e w' => e = .returned (.int .i64 (sgn x y)) ∧ w = w' := by
  unfold sgn
  by_cases h : x < y
  · rw [if_pos h]
    go_enter Try.func6, Try.ntmps6
    go_wp2
    go_ret
    exact ⟨rfl, rfl⟩
  · rw [if_neg h]
    by_cases h' : y < x
    · rw [if_pos h']
      go_enter Try.func6, Try.ntmps6
      go_wp2
      go_ret
      exact ⟨rfl, rfl⟩
    · rw [if_neg h']
      go_enter Try.func6, Try.ntmps6
      go_wp2
      go_ret
      exact ⟨rfl, rfl⟩
theorem pos_any (a : ByteArray) (x y : Int) (w : World) : Calls Try.prog 5 #[.agg #[.string a, .int .u64 x], .int .u64 y] w fun e w' => e = .returned (.int .i64 (sgn x y)) ∧ ∃ c1 c2 : Array Value, w' = (w.alloc (.cells c1 26)).alloc (.cells c2 26) := by
  go_enter Try.func5, Try.ntmps5
  go_wp2_with (first | (go_at_call 8; refine (cmp_any _ _ _).mono ?_; rintro e w' ⟨rfl, rfl⟩) | (go_at_call 7; go_in))
  go_ret
  exact ⟨rfl, _, _, rfl⟩
theorem bytes_yes (a0 a1 : ByteArray) (a2 a3 a4 : Int) (w : World) (h : a0.size + a1.size ≤ 1048576) : Calls Try.prog 4 #[.string a0, .string a1, .int .u64 a2, .int .u64 a3, .int .u64 a4] w fun e w' => e = .returned (.bool true) ∧ w = w' := by
  have h0 : a0.size ≤ 1048576 := by omega
  have h1 : a1.size ≤ 1048576 := by omega
  go_enter Try.func4, Try.ntmps4
  go_wp2
  go_ret
  exact ⟨rfl, rfl⟩
theorem bytes_no (a0 a1 : ByteArray) (a2 a3 a4 : Int) (w : World) (w0 : a0.size ≤ 9223372036854775807) (w1 : a1.size ≤ 9223372036854775807) (h : ¬ a0.size + a1.size ≤ 1048576) : Calls Try.prog 4 #[.string a0, .string a1, .int .u64 a2, .int .u64 a3, .int .u64 a4] w fun e w' => e = .returned (.bool false) ∧ w = w' := by
  by_cases h0 : a0.size ≤ 1048576
  · by_cases h1 : a1.size ≤ 1048576
    · have h2 : ¬ (a0.size : Int) + (a1.size : Int) ≤ 1048576 := by omega
      go_enter Try.func4, Try.ntmps4
      go_wp2
      go_ret
      exact ⟨rfl, rfl⟩
    · go_enter Try.func4, Try.ntmps4
      go_wp2
      go_ret
      exact ⟨rfl, rfl⟩
  · go_enter Try.func4, Try.ntmps4
    go_wp2
    go_ret
    exact ⟨rfl, rfl⟩

/-! ### STEP 1: THE WALK: the Go text returns true. 'Grown w w'': the world has at most new blocks (Derived/RowKit3.lean). Part the cases AHEAD of 'go_enter' where a test parts the walk; take each callee by a contract of your own. -/
theorem walk (a0 : ByteArray) (a1 : ByteArray) (a2 : Int) (a3 : Int) (a4 : Int) (w0 : a0.size ≤ maxLen) (w1 : a1.size ≤ maxLen) (w2 : (Lit.int .u64 a2).wf = true) (w3 : (Lit.int .u64 a3).wf = true) (w4 : (Lit.int .u64 a4).wf = true) (w : World) :
    Calls Try.prog 3 #[.string a0, .string a1, .int .u64 a2, .int .u64 a3, .int .u64 a4] w fun e w' => e = .returned (.bool true) ∧ Grown w w' := by
  have b2 := bounds_u64 w2
  have b3 := bounds_u64 w3
  have b4 := bounds_u64 w4
  unfold maxLen at w0 w1
  clear w2 w3 w4
  obtain ⟨l2, u2⟩ := b2
  obtain ⟨l3, u3⟩ := b3
  obtain ⟨l4, u4⟩ := b4
  by_cases hsum : a0.size + a1.size ≤ 1048576
  · by_cases c0 : a0.size ≤ 65536
    · by_cases c1 : a1.size ≤ 65536
      · by_cases c2 : a4 ≤ 18446744073709551615 - a2
        · by_cases c3 : a4 ≤ 18446744073709551615 - a3
          · have c2' : a2 + a4 ≤ 18446744073709551615 := by omega
            have c3' : a3 + a4 ≤ 18446744073709551615 := by omega
            have hs : sgn (a2 + a4) (a3 + a4) = sgn a2 a3 := sgn_shift a2 a3 a4
            go_enter Try.func3, Try.ntmps3
            go_wp2_with (first | (go_at_call 4; refine (bytes_yes a0 a1 a2 a3 a4 _ (by omega)).mono ?_; rintro e w' ⟨rfl, rfl⟩) | (go_at_call 5; refine (pos_any _ _ _ _).mono ?_; rintro e w' ⟨rfl, o1, o2, rfl⟩) | (go_at_call 6; refine (sign_any _ _ _).mono ?_; rintro e w' ⟨rfl, rfl⟩))
            go_ret
            exact ⟨rfl, by repeat (first | exact Grown.refl _ | apply Grown.drew | apply Grown.alloc)⟩
          · go_enter Try.func3, Try.ntmps3
            go_wp2_with (go_at_call 4; refine (bytes_yes a0 a1 a2 a3 a4 _ (by omega)).mono ?_; rintro e w' ⟨rfl, rfl⟩)
            go_ret
            exact ⟨rfl, by repeat (first | exact Grown.refl _ | apply Grown.drew | apply Grown.alloc)⟩
        · go_enter Try.func3, Try.ntmps3
          go_wp2_with (go_at_call 4; refine (bytes_yes a0 a1 a2 a3 a4 _ (by omega)).mono ?_; rintro e w' ⟨rfl, rfl⟩)
          go_ret
          exact ⟨rfl, by repeat (first | exact Grown.refl _ | apply Grown.drew | apply Grown.alloc)⟩
      · go_enter Try.func3, Try.ntmps3
        go_wp2_with (go_at_call 4; refine (bytes_yes a0 a1 a2 a3 a4 _ (by omega)).mono ?_; rintro e w' ⟨rfl, rfl⟩)
        go_ret
        exact ⟨rfl, by repeat (first | exact Grown.refl _ | apply Grown.drew | apply Grown.alloc)⟩
    · go_enter Try.func3, Try.ntmps3
      go_wp2_with (go_at_call 4; refine (bytes_yes a0 a1 a2 a3 a4 _ (by omega)).mono ?_; rintro e w' ⟨rfl, rfl⟩)
      go_ret
      exact ⟨rfl, by repeat (first | exact Grown.refl _ | apply Grown.drew | apply Grown.alloc)⟩
  · go_enter Try.func3, Try.ntmps3
    go_wp2_with (go_at_call 4; refine (bytes_no a0 a1 a2 a3 a4 _ (by omega) (by omega) hsum).mono ?_; rintro e w' ⟨rfl, rfl⟩)
    go_ret
    exact ⟨rfl, by repeat (first | exact Grown.refl _ | apply Grown.drew | apply Grown.alloc)⟩

/-! ### THE ROW's STEP: WRITTEN OUT: LEAVE IT -/
set_option maxRecDepth 100000 in
theorem lifted (os : Os) (started : os.Started) (H : Type) (enc : TypeId × Value → H) :
    ReturnsInHanded {} Try.checked os 3 .any (Rows.fnByPositionShiftAndAddrFreeSpec.pre6 enc Try.prog Try.f3 Rows.fnByPositionShiftAndAddrFreeRow.domain false) (Rows.fnByPositionShiftAndAddrFreeSpec.post enc Try.prog Try.f3 false true false false) := by
  refine returnsInHanded_of_change (C := Try.checked) own started (by kernel_rfl) Try.func3
    (ChangeSpec.witness6 (enc := enc) (C := Try.checked) false ⟨#[], #[.string ByteArray.empty, .string ByteArray.empty, .int .u64 0, .int .u64 0, .int .u64 0], []⟩ 8 (by kernel_rfl) (by kernel_rfl) (by kernel_rfl) (by kernel_rfl)) ?_
  intro W base args ds gs before hval0 hW hcnd _
  have hval : ∀ (j : Nat) t v, Try.f3.params[j]? = some t → args[j]? = some v → Value.okWide Try.prog W .any base t v := hval0
  have hW' := hW
  obtain ⟨p, q, hA0, hV, rfl, hfz, hnd⟩ := hW
  have hA : DataW.TrodAll enc Try.prog W 0 (fun _ => true) true Try.f3.params.toList args.toList ds p := hA0
  rw [Try.params3] at hA hval
  obtain ⟨v0, vs0, d0, ds0, p0, q0, hargs, rfl, rfl, h0, r0⟩ := trodAll_cons hA
  obtain ⟨v1, vs1, d1, ds1, p1, q1, rfl, rfl, rfl, h1, r1⟩ := trodAll_cons r0
  obtain ⟨v2, vs2, d2, ds2, p2, q2, rfl, rfl, rfl, h2, r2⟩ := trodAll_cons r1
  obtain ⟨v3, vs3, d3, ds3, p3, q3, rfl, rfl, rfl, h3, r3⟩ := trodAll_cons r2
  obtain ⟨v4, vs4, d4, ds4, p4, q4, rfl, rfl, rfl, h4, r4⟩ := trodAll_cons r3
  obtain ⟨rfl, rfl, rfl⟩ := trodAll_nil r4
  obtain rfl : args = #[v0, v1, v2, v3, v4] := by cases args; simp_all
  obtain ⟨rfl, rfl⟩ := trodVars_none hV
  obtain ⟨a0, rfl, rfl, rfl, w0⟩ := open_string Try.underlying9 (hval 0 9 v0 rfl rfl) h0
  obtain ⟨a1, rfl, rfl, rfl, w1⟩ := open_string Try.underlying9 (hval 1 9 v1 rfl rfl) h1
  obtain ⟨a2, rfl, rfl, rfl, w2⟩ := open_int Try.underlying22 (hval 2 22 v2 rfl rfl) h2
  obtain ⟨a3, rfl, rfl, rfl, w3⟩ := open_int Try.underlying22 (hval 3 22 v3 rfl rfl) h3
  obtain ⟨a4, rfl, rfl, rfl, w4⟩ := open_int Try.underlying22 (hval 4 22 v4 rfl rfl) h4
  clear hA0 hval0
  simp only [List.append_nil] at hW'
  refine (walk a0 a1 a2 a3 a4 w0 w1 w2 w3 w4 W).mono fun e W' ⟨he, hg⟩ => ?_
  subst he
  exact ⟨_, rfl, post_of_same (pa := []) (pv := []) hW' (fun _ _ _ => (trodAll_cons_mk (shut_bool Try.underlying4 _) trodAll_mk0)) (fun sp _ => (trodAll_cons_mk (shut_string Try.underlying9 w0) (trodAll_cons_mk (shut_string Try.underlying9 w1) (trodAll_cons_mk (shut_int Try.underlying22 w2) (trodAll_cons_mk (shut_int Try.underlying22 w3) (trodAll_cons_mk (shut_int Try.underlying22 w4) trodAll_mk0)))))) (fun _ _ => rfl) rfl
    (hg.frame _) hg.2.1 (ok_one (by kernel_rfl) rfl (okWide_bool_mk Try.underlying4 _))⟩

theorem over : Rows.fnByPositionShiftAndAddrFreeRow.holds Try.pinned (OpenSpec.ofChange Rows.fnByPositionShiftAndAddrFreeSpec) :=
  OpenClaim.holds_of_wide 3 Try.f3 rfl rfl rfl rfl rfl rfl rfl ⟨rfl, rfl, rfl, rfl, rfl⟩ rfl rfl rfl rfl rfl (by kernel_rfl) Try.func3 (by kernel_rfl)
    (of_decide_eq_true (by kernel_rfl)) (by unfold Func.isWrapper; first | (rw [if_pos (by decide +kernel)]; kernel_rfl) | (rw [if_neg (by decide +kernel)]; exact ⟨rfl, rfl⟩))
    (fun os started H enc _ => lifted os started H enc)

/-- ████ THE STATEMENT ████ -/
theorem proved : Rows.FnByPositionShiftAndAddrFreeSaid :=
  over
end Go.Proofs.Qxb6612900a.fnByPositionShiftAndAddrFree
