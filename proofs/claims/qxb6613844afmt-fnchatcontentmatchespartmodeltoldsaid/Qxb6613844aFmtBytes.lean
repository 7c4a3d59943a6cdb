/- The law's bound on the input's bytes (zzBytes) and chatInputTooBig. -/
import Derived.Test.Qxb6613844aFmtPtrs
import Derived.Test.Qxb6613844aFmtNil
namespace Go.Proofs.Qxb6613844aFmt
open Go.RowKit

set_option maxHeartbeats 4000000 in
set_option maxRecDepth 100000 in
theorem bytes_any (role text path : ByteArray) (a : Addr) (cap : Nat) (ps : List LP) (w : World) (hP : Lies w a ps) (hpt : ∀ p ∈ ps, Ptrs w p) :
    Calls Tryf.prog 5 #[.string role, .string text, .slice (some a) ps.length cap, .string path] w fun e w' => w = w' ∧ ∃ b, e = .returned (.bool b) ∧ (b = true → Sized role text path ps) := by
  go_enter Tryf.func5, Tryf.ntmps5
  go_wp2
  all_goals try (go_ret; exact ⟨rfl, _, rfl, fun h => absurd h Bool.false_ne_true⟩)
  go_loopw [9, 10] (fun n i wr => ∃ (k : Nat) (N : Int), Hid (w = wr) ∧ k ≤ ps.length ∧ 0 ≤ N ∧ N ≤ 1048576 ∧ n = .int .i64 N ∧ i = .int .i64 k ∧ Hid (∀ p ∈ ps.take k, p.rf.size ≤ 1048576 ∧ p.tx.size ≤ 1048576)) (fun _ i _ => ps.length - (intOf i).toNat)
  case atStart => refine ⟨0, _, rfl, Nat.zero_le _, ?_, ?_, rfl, rfl, fun p hp => by simp at hp⟩ <;> omega
  case round =>
    obtain ⟨k, N, hw, hk, hN0, hN1, rfl, rfl, hs⟩ := hrel
    cases hw.out
    clear hw
    by_cases hlt : k < ps.length
    · obtain ⟨p, hpk⟩ : ∃ p, ps[k]? = some p := ⟨_, List.getElem?_eq_getElem hlt⟩
      obtain ⟨b, off, ha, hb, hat⟩ := hP k p hpk
      rw [ha]
      obtain ⟨hpf, hpb⟩ := hpt p (List.mem_of_getElem? hpk)
      obtain ⟨c0, c1, c2, c3, c4, c5, c6⟩ := hat
      have hsn : Hid (p.rf.size ≤ 1048576 → p.tx.size ≤ 1048576 → ∀ q ∈ ps.take (k + 1), q.rf.size ≤ 1048576 ∧ q.tx.size ≤ 1048576) := by
        intro h1 h2 q hq
        rw [take_snoc hpk, List.mem_append] at hq
        rcases hq with hq | hq
        · exact hs.out q hq
        · simp at hq; subst hq; exact ⟨h1, h2⟩
      clear hpk hP ha hpt hs
      cases hfi : p.fi with
      | none =>
        rw [hfi] at c4
        clear hpf
        cases hbp : p.bp with
        | none =>
          rw [hbp] at c6
          clear hpb
          go_wp2
          all_goals first
            | (go_ret; exact ⟨rfl, _, rfl, fun h => absurd h Bool.false_ne_true⟩)
            | (go_roundw; (case rel => (refine ⟨k + 1, _, by first | exact rfl | exact trivial, by omega, ?_, ?_, rfl, by go_num, hsn.out (by omega) (by omega)⟩ <;> omega)); (case measure => (simp [intOf]; omega)))
        | some q =>
          rw [hbp] at c6
          obtain ⟨qb, qo, m, rfl, hqb, hqc, hqm⟩ := hpb q hbp
          clear hpb
          cases m with
          | none =>
            clear hqm
            go_wp2
            all_goals first
              | (go_ret; exact ⟨rfl, _, rfl, fun h => absurd h Bool.false_ne_true⟩)
              | (go_roundw; (case rel => (refine ⟨k + 1, _, by first | exact rfl | exact trivial, by omega, ?_, ?_, rfl, by go_num, hsn.out (by omega) (by omega)⟩ <;> omega)); (case measure => (simp [intOf]; omega)))
          | some q' =>
            obtain ⟨mb, mo, ms, rfl, hmb, hmc⟩ := hqm q' rfl
            clear hqm
            go_wp2
            all_goals first
              | (go_ret; exact ⟨rfl, _, rfl, fun h => absurd h Bool.false_ne_true⟩)
              | (go_roundw; (case rel => (refine ⟨k + 1, _, by first | exact rfl | exact trivial, by omega, ?_, ?_, rfl, by go_num, hsn.out (by omega) (by omega)⟩ <;> omega)); (case measure => (simp [intOf]; omega)))
      | some f =>
        rw [hfi] at c4
        obtain ⟨fb, fo, fs, rfl, hfb, hfc⟩ := hpf f hfi
        clear hpf
        cases hbp : p.bp with
        | none =>
          rw [hbp] at c6
          clear hpb
          go_wp2
          all_goals first
            | (go_ret; exact ⟨rfl, _, rfl, fun h => absurd h Bool.false_ne_true⟩)
            | (go_roundw; (case rel => (refine ⟨k + 1, _, by first | exact rfl | exact trivial, by omega, ?_, ?_, rfl, by go_num, hsn.out (by omega) (by omega)⟩ <;> omega)); (case measure => (simp [intOf]; omega)))
        | some q =>
          rw [hbp] at c6
          obtain ⟨qb, qo, m, rfl, hqb, hqc, hqm⟩ := hpb q hbp
          clear hpb
          cases m with
          | none =>
            clear hqm
            go_wp2
            all_goals first
              | (go_ret; exact ⟨rfl, _, rfl, fun h => absurd h Bool.false_ne_true⟩)
              | (go_roundw; (case rel => (refine ⟨k + 1, _, by first | exact rfl | exact trivial, by omega, ?_, ?_, rfl, by go_num, hsn.out (by omega) (by omega)⟩ <;> omega)); (case measure => (simp [intOf]; omega)))
          | some q' =>
            obtain ⟨mb, mo, ms, rfl, hmb, hmc⟩ := hqm q' rfl
            clear hqm
            go_wp2
            all_goals first
              | (go_ret; exact ⟨rfl, _, rfl, fun h => absurd h Bool.false_ne_true⟩)
              | (go_roundw; (case rel => (refine ⟨k + 1, _, by first | exact rfl | exact trivial, by omega, ?_, ?_, rfl, by go_num, hsn.out (by omega) (by omega)⟩ <;> omega)); (case measure => (simp [intOf]; omega)))
    · have hsl : ∀ p ∈ ps, p.rf.size ≤ 1048576 ∧ p.tx.size ≤ 1048576 := by
        have := hs.out
        rwa [List.take_of_length_le (by omega)] at this
      clear hP hpt hs
      go_wp2
      all_goals first
        | (go_ret; exact ⟨rfl, _, rfl, fun h => absurd h Bool.false_ne_true⟩)
        | (go_ret; exact ⟨rfl, _, rfl, fun _ => ⟨by omega, by omega, by omega, by omega, hsl⟩⟩)
end Go.Proofs.Qxb6613844aFmt
