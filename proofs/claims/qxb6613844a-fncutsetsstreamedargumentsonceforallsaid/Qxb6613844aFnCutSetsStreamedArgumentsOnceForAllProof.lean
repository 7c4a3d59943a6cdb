/- The guide's shell for this statement, its hole filled. -/
import Derived.Test.Qxb6613844aRows
import Derived.WalkKit
import Derived.ProofKit
import Derived.OpenShut
import Derived.ShutString
import Derived.Test.Qxb6613844aCut
import Derived.BigQuiet
import Derived.Laws.StructEq
import Derived.Deep.QuietTactic
import Derived.ChangeOld
import Derived.Below
namespace Go.Proofs.Qxb6613844a.fnCutSetsStreamedArgumentsOnceForAll
open Go.ChangeShapes Go.WideShapes Go.ChangeAt Go.RowKit
open Go.ChangeMaps (open_string shut_string)
set_option linter.unusedVariables false      -- a walk need not use every 'w<i>' (that an integer argument fits its kind)

theorem own : ownKnob Try.prog.godebug = none := by kernel_rfl

theorem ht26 : Try.prog.underlying 26 = some (.struct (Try.prog.fieldsOf 26)) := by kernel_rfl
theorem hp26 : Try.prog.stoodInHeld 26 = false := by kernel_rfl
theorem eq_item (x0 x1 x2 x3 x4 x5 x6 : ByteArray) (W : World) : (binOp .eql 26 (.agg #[.string x0, .string x1, .string x2, .string x3, .string x4, .string x5, .string x6]) (.agg #[.string x0, .string x1, .string x2, .string x3, .string x4, .string x5, .string x6])).run Try.prog W = .ok (.bool true) W := by
  rw [run_eql_struct, run_equalIn_struct W 9999 26 _ _ ht26 hp26]
  simp [go_sem]

/-! ### STEP 1: THE WALK: the Go text returns true. 'Grown w w'': the world has at most new blocks (Derived/RowKit3.lean). Part the cases AHEAD of 'go_enter' where a test parts the walk; take each callee by a contract of your own. -/
theorem walk (a0 : ByteArray) (a1 : ByteArray) (a2 : ByteArray) (a3 : ByteArray) (a4 : ByteArray) (a5 : ByteArray) (a6 : ByteArray) (a7 : ByteArray) (a8 : Int) (w0 : a0.size ≤ maxLen) (w1 : a1.size ≤ maxLen) (w2 : a2.size ≤ maxLen) (w3 : a3.size ≤ maxLen) (w4 : a4.size ≤ maxLen) (w5 : a5.size ≤ maxLen) (w6 : a6.size ≤ maxLen) (w7 : a7.size ≤ maxLen) (w8 : (Lit.int .i64 a8).wf = true) (w : World) :
    Calls Try.prog 3 #[.string a0, .string a1, .string a2, .string a3, .string a4, .string a5, .string a6, .string a7, .int .i64 a8] w fun e w' => e = .returned (.bool true) ∧ Below w.heap.size w w' := by
  unfold maxLen at w0 w1 w2 w3 w4 w5 w6 w7
  clear w8
  go_enter Try.func3, Try.ntmps3
  go_wp2_with fail
  refine (zz_any a0 a1 a2 a3 a4 a5 a6 a7 a8 _ w0 w1 w2 w3 w4 w5 w6 w7).mono ?_
  rintro e w' ⟨b, rfl, rfl, hb⟩
  cases b with
  | false =>
    go_wp2
    go_ret
    exact ⟨rfl, Below.refl _ _⟩
  | true =>
    have hsum := hb rfl
    clear hb w0 w1 w2 w3 w4 w5 w6 w7
    have HN : Hid ((w.alloc (.cells #[.string a0, .string a1, .string a2, .string a3, .string a4, .string a5, .string a6] 26)).heap[w.heap.size]? = some (.cells #[.string a0, .string a1, .string a2, .string a3, .string a4, .string a5, .string a6] 26 (0, 0))) := heap_alloc_new w _
    go_wp2_with fail
    refine (big_no a0 a1 a2 a3 a4 a5 a6 a7 ⟨#[]⟩ _ (by show _ + 0 ≤ _; omega)).mono ?_
    rintro e w' ⟨rfl, rfl⟩
    go_wp2_with fail
    refine (new_any _ a8 a7 _ (by omega) w.heap.size rfl).mono ?_
    rintro e w1 ⟨rfl, hS1, hB1⟩
    rw [byteCells_toList] at hS1
    have HN1 : Hid (w1.heap[w.heap.size]? = some (.cells #[.string a0, .string a1, .string a2, .string a3, .string a4, .string a5, .string a6] 26 (0, 0))) := (hB1.block w.heap.size (by simp)).trans HN.out
    have hS1' : Sfc (w.heap.size + 1) (w.heap.size + 1) (.pointer (some ⟨w.heap.size, 0, none⟩)) (.int .i64 a8) (.pointer (some ⟨w.heap.size + 1, 2, none⟩)) (Lib.byteCells a7.data.toList) w1 := by simpa using hS1
    have HS1 : Hid (Sfc (w.heap.size + 1) (w.heap.size + 1) (.pointer (some ⟨w.heap.size, 0, none⟩)) (.int .i64 a8) (.pointer (some ⟨w.heap.size + 1, 2, none⟩)) (Lib.byteCells a7.data.toList) w1) := hS1'
    have HB1 : Hid (Below w.heap.size w w1) := ((Below.refl _ w).alloc (Nat.le_refl _) _).trans (hB1.mono (by simp))
    clear hS1 hS1' hB1 HN
    go_wp2_with fail
    refine (cut_any w.heap.size (w.heap.size + 1) _ _ a7.data.toList _ _ _ _ _ _ _ _ HN1.out HS1.out (by omega)).mono ?_
    rintro e w2 ⟨rfl, hN2, hS2, hB2, hK2⟩
    have HB2 : Hid (Below w.heap.size w w2) := HB1.out.trans hB2
    have HS2 : Hid (Sfc (w.heap.size + 1) (w.heap.size + 1) (.pointer (some ⟨w.heap.size, 0, none⟩)) (.int .i64 a8) (.pointer (some ⟨w.heap.size + 1, 2, none⟩)) (Lib.byteCells a7.data.toList) (w2.alloc (.cells #[.string a0, .string a1, .string a2, .string a3, .string a4, .string a7, .string inc] 26))) := hS2.alloc _
    have HF2 : Hid ((w2.alloc (.cells #[.string a0, .string a1, .string a2, .string a3, .string a4, .string a7, .string inc] 26)).heap[w2.heap.size]? = some (.cells #[.string a0, .string a1, .string a2, .string a3, .string a4, .string a7, .string inc] 26 (0, 0))) := heap_alloc_new w2 _
    have hlt2 := lt_of_heap hN2
    have HN2 : Hid ((w2.alloc (.cells #[.string a0, .string a1, .string a2, .string a3, .string a4, .string a7, .string inc] 26)).heap[w.heap.size]? = some (.cells #[.string a0, .string a1, .string a2, .string a3, .string a4, .string a7, .string inc] 26 (0, 0))) := (Lib.alloc_old w2 _ _ hlt2).trans hN2
    have e7 : (⟨a7.data.toList.toArray⟩ : ByteArray) = a7 := by cases a7; rfl
    rw [e7] at hN2
    have k0 : w2.cell? ⟨w.heap.size, 0, none⟩ = some (.string a0) := by rw [Lib.cell_of_heap hN2]; rfl
    have k1 : w2.cell? ⟨w.heap.size, 1, none⟩ = some (.string a1) := by rw [Lib.cell_of_heap hN2]; rfl
    have k2 : w2.cell? ⟨w.heap.size, 2, none⟩ = some (.string a2) := by rw [Lib.cell_of_heap hN2]; rfl
    have k3 : w2.cell? ⟨w.heap.size, 3, none⟩ = some (.string a3) := by rw [Lib.cell_of_heap hN2]; rfl
    have k4 : w2.cell? ⟨w.heap.size, 4, none⟩ = some (.string a4) := by rw [Lib.cell_of_heap hN2]; rfl
    have k5 : w2.cell? ⟨w.heap.size, 5, none⟩ = some (.string a7) := by rw [Lib.cell_of_heap hN2]; rfl
    have k6 : w2.cell? ⟨w.heap.size, 6, none⟩ = some (.string inc) := by rw [Lib.cell_of_heap hN2]; rfl
    clear hN2 hS2 hB2 hK2 HN1 HS1 HB1 e7
    go_wp2_with fail
    refine (cut_any w.heap.size (w.heap.size + 1) _ _ a7.data.toList _ _ _ _ _ _ _ _ HN2.out HS2.out (by omega)).mono ?_
    rintro e w3 ⟨rfl, hN3, hS3, hB3, hK3⟩
    have hF3 := hK3 w2.heap.size _ 26 (0, 0) (by omega) HF2.out (by decide)
    have HB3 : Hid (Below w.heap.size w w3) := ((HB2.out).alloc (Nat.le_of_lt hlt2) _).trans hB3
    have e7 : (⟨a7.data.toList.toArray⟩ : ByteArray) = a7 := by cases a7; rfl
    rw [e7] at hN3
    unfold inc at hN3 hF3
    clear hS3 hB3 hK3 HF2 HN2 HS2 HB2 e7 k0 k1 k2 k3 k4 k5 k6
    have k0 : w3.cell? ⟨w.heap.size, 0, none⟩ = some (.string a0) := by rw [Lib.cell_of_heap hN3]; rfl
    have k1 : w3.cell? ⟨w.heap.size, 1, none⟩ = some (.string a1) := by rw [Lib.cell_of_heap hN3]; rfl
    have k2 : w3.cell? ⟨w.heap.size, 2, none⟩ = some (.string a2) := by rw [Lib.cell_of_heap hN3]; rfl
    have k3 : w3.cell? ⟨w.heap.size, 3, none⟩ = some (.string a3) := by rw [Lib.cell_of_heap hN3]; rfl
    have k4 : w3.cell? ⟨w.heap.size, 4, none⟩ = some (.string a4) := by rw [Lib.cell_of_heap hN3]; rfl
    have k5 : w3.cell? ⟨w.heap.size, 5, none⟩ = some (.string a7) := by rw [Lib.cell_of_heap hN3]; rfl
    have k6 : w3.cell? ⟨w.heap.size, 6, none⟩ = some (.string ⟨#[105, 110, 99, 111, 109, 112, 108, 101, 116, 101]⟩) := by rw [Lib.cell_of_heap hN3]; rfl
    have m0 : w3.cell? ⟨w2.heap.size, 0, none⟩ = some (.string a0) := by rw [Lib.cell_of_heap hF3]; rfl
    have m1 : w3.cell? ⟨w2.heap.size, 1, none⟩ = some (.string a1) := by rw [Lib.cell_of_heap hF3]; rfl
    have m2 : w3.cell? ⟨w2.heap.size, 2, none⟩ = some (.string a2) := by rw [Lib.cell_of_heap hF3]; rfl
    have m3 : w3.cell? ⟨w2.heap.size, 3, none⟩ = some (.string a3) := by rw [Lib.cell_of_heap hF3]; rfl
    have m4 : w3.cell? ⟨w2.heap.size, 4, none⟩ = some (.string a4) := by rw [Lib.cell_of_heap hF3]; rfl
    have m5 : w3.cell? ⟨w2.heap.size, 5, none⟩ = some (.string a7) := by rw [Lib.cell_of_heap hF3]; rfl
    have m6 : w3.cell? ⟨w2.heap.size, 6, none⟩ = some (.string ⟨#[105, 110, 99, 111, 109, 112, 108, 101, 116, 101]⟩) := by rw [Lib.cell_of_heap hF3]; rfl
    have heq := eq_item a0 a1 a2 a3 a4 a7 ⟨#[105, 110, 99, 111, 109, 112, 108, 101, 116, 101]⟩
    clear hN3 hF3
    go_wp2_with fail
    go_quiet (fail)
    go_wp2
    go_ret
    exact ⟨rfl, by obtain h := HB3.out; exact ⟨h.os, h.tape, h.output, h.size, h.block⟩⟩

/-! ### THE ROW's STEP: WRITTEN OUT: LEAVE IT -/
set_option maxRecDepth 100000 in
theorem lifted (os : Os) (started : os.Started) (H : Type) (enc : TypeId × Value → H) :
    ReturnsInHanded {} Try.checked os 3 .any (Rows.fnCutSetsStreamedArgumentsOnceForAllSpec.pre6 enc Try.prog Try.f3 Rows.fnCutSetsStreamedArgumentsOnceForAllRow.domain false) (Rows.fnCutSetsStreamedArgumentsOnceForAllSpec.post enc Try.prog Try.f3 false true false false) := by
  refine returnsInHanded_of_change (C := Try.checked) own started (by kernel_rfl) Try.func3
    (ChangeSpec.witness6 (enc := enc) (C := Try.checked) false ⟨#[], #[.string ByteArray.empty, .string ByteArray.empty, .string ByteArray.empty, .string ByteArray.empty, .string ByteArray.empty, .string ByteArray.empty, .string ByteArray.empty, .string ByteArray.empty, .int .i64 0], []⟩ 8 (by kernel_rfl) (by kernel_rfl) (by kernel_rfl) (by kernel_rfl)) ?_
  intro W base args ds gs before hval0 hW hcnd _
  have hval : ∀ (j : Nat) t v, Try.f3.params[j]? = some t → args[j]? = some v → Value.okWide Try.prog W .any base t v := hval0
  have hW' := hW
  obtain ⟨p, q, hA0, hV, rfl, hfz, hnd⟩ := hW
  have hA : DataW.TrodAll enc Try.prog W 0 (fun _ => true) true Try.f3.params.toList args.toList ds p := hA0
  rw [Try.params3] at hA hval
  obtain ⟨v0, vs0, d0, ds0, p0, q0, hargs, rfl, rfl, h0, r0⟩ := trodAll_cons hA
  obtain ⟨v1, vs1, d1, ds1, p1, q1, rfl, rfl, rfl, h1, r1⟩ := trodAll_cons r0
  obtain ⟨v2, vs2, d2, ds2, p2, q2, rfl, rfl, rfl, h2, r2⟩ := trodAll_cons r1
  obtain ⟨v3, vs3, d3, ds3, p3, q3, rfl, rfl, rfl, h3, r3⟩ := trodAll_cons r2
  obtain ⟨v4, vs4, d4, ds4, p4, q4, rfl, rfl, rfl, h4, r4⟩ := trodAll_cons r3
  obtain ⟨v5, vs5, d5, ds5, p5, q5, rfl, rfl, rfl, h5, r5⟩ := trodAll_cons r4
  obtain ⟨v6, vs6, d6, ds6, p6, q6, rfl, rfl, rfl, h6, r6⟩ := trodAll_cons r5
  obtain ⟨v7, vs7, d7, ds7, p7, q7, rfl, rfl, rfl, h7, r7⟩ := trodAll_cons r6
  obtain ⟨v8, vs8, d8, ds8, p8, q8, rfl, rfl, rfl, h8, r8⟩ := trodAll_cons r7
  obtain ⟨rfl, rfl, rfl⟩ := trodAll_nil r8
  obtain rfl : args = #[v0, v1, v2, v3, v4, v5, v6, v7, v8] := by cases args; simp_all
  obtain ⟨rfl, rfl⟩ := trodVars_none hV
  obtain ⟨a0, rfl, rfl, rfl, w0⟩ := open_string Try.underlying9 (hval 0 9 v0 rfl rfl) h0
  obtain ⟨a1, rfl, rfl, rfl, w1⟩ := open_string Try.underlying9 (hval 1 9 v1 rfl rfl) h1
  obtain ⟨a2, rfl, rfl, rfl, w2⟩ := open_string Try.underlying9 (hval 2 9 v2 rfl rfl) h2
  obtain ⟨a3, rfl, rfl, rfl, w3⟩ := open_string Try.underlying9 (hval 3 9 v3 rfl rfl) h3
  obtain ⟨a4, rfl, rfl, rfl, w4⟩ := open_string Try.underlying9 (hval 4 9 v4 rfl rfl) h4
  obtain ⟨a5, rfl, rfl, rfl, w5⟩ := open_string Try.underlying9 (hval 5 9 v5 rfl rfl) h5
  obtain ⟨a6, rfl, rfl, rfl, w6⟩ := open_string Try.underlying9 (hval 6 9 v6 rfl rfl) h6
  obtain ⟨a7, rfl, rfl, rfl, w7⟩ := open_string Try.underlying9 (hval 7 9 v7 rfl rfl) h7
  obtain ⟨a8, rfl, rfl, rfl, w8⟩ := open_int Try.underlying3 (hval 8 3 v8 rfl rfl) h8
  clear hA0 hval0
  refine (walk a0 a1 a2 a3 a4 a5 a6 a7 a8 w0 w1 w2 w3 w4 w5 w6 w7 w8 W).mono fun e W' ⟨he, bel⟩ => ?_
  subst he
  exact ⟨_, rfl, _, _, _, [], _, [], hW', trodAll_mk1 (shut_bool Try.underlying4 _), (trodAll_cons_mk (shut_string Try.underlying9 w0) (trodAll_cons_mk (shut_string Try.underlying9 w1) (trodAll_cons_mk (shut_string Try.underlying9 w2) (trodAll_cons_mk (shut_string Try.underlying9 w3) (trodAll_cons_mk (shut_string Try.underlying9 w4) (trodAll_cons_mk (shut_string Try.underlying9 w5) (trodAll_cons_mk (shut_string Try.underlying9 w6) (trodAll_cons_mk (shut_string Try.underlying9 w7) (trodAll_cons_mk (shut_int Try.underlying3 w8) trodAll_mk0))))))))), rfl, bel.frame _, fun h => by cases h⟩

theorem over : Rows.fnCutSetsStreamedArgumentsOnceForAllRow.holds Try.pinned (OpenSpec.ofChange Rows.fnCutSetsStreamedArgumentsOnceForAllSpec) :=
  OpenClaim.holds_of_wide 3 Try.f3 rfl rfl rfl rfl rfl rfl rfl ⟨rfl, rfl, rfl, rfl, rfl⟩ rfl rfl rfl rfl rfl (by kernel_rfl) Try.func3 (by kernel_rfl)
    (of_decide_eq_true (by kernel_rfl)) (by unfold Func.isWrapper; first | (rw [if_pos (by decide +kernel)]; kernel_rfl) | (rw [if_neg (by decide +kernel)]; exact ⟨rfl, rfl⟩))
    (fun os started H enc _ => lifted os started H enc)

/-- ████ THE STATEMENT ████ -/
theorem proved : Rows.FnCutSetsStreamedArgumentsOnceForAllSaid :=
  over
end Go.Proofs.Qxb6613844a.fnCutSetsStreamedArgumentsOnceForAll
