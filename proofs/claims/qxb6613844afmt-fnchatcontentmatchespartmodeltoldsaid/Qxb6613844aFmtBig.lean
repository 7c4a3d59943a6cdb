/- zzlaws' grow and chatInputTooBig. -/
import Derived.Test.Qxb6613844aFmtPtrs
import Derived.Test.Qxb6613844aFmtNil
namespace Go.Proofs.Qxb6613844aFmt
open Go.RowKit

theorem grow_any (n m : Int) (w : World) (h0 : -1 ≤ n) (h1 : n ≤ 1048576) :
    Calls Tryf.prog 20 #[.int .i64 n, .int .i64 m] w fun e w' => w = w' ∧ ∃ z : Int, -1 ≤ z ∧ z ≤ 1048576 ∧ e = .returned (.int .i64 z) := by
  go_enter Tryf.func20, Tryf.ntmps20
  go_wp2
  all_goals go_ret
  all_goals refine ⟨rfl, _, ?_, ?_, rfl⟩
  all_goals omega

set_option maxHeartbeats 4000000 in
set_option maxRecDepth 100000 in
theorem big_any (role text path : ByteArray) (a : Addr) (cap : Nat) (ps : List LP) (w : World) (hn : ps.length ≤ 1048576) (hP : Lies w a ps) (hpt : ∀ p ∈ ps, Ptrs w p) :
    Calls Tryf.prog 6 #[.string role, .string text, .string path, .slice (some a) ps.length cap] w fun e w' => Below w.heap.size w w' ∧ ∃ b, e = .returned (.bool b) := by
  go_enter Tryf.func6, Tryf.ntmps6
  go_wp2_with (go_at_call 20; refine (grow_any _ _ _ (by omega) (by omega)).mono ?_; rintro e w' ⟨rfl, z, hz0, hz1, rfl⟩)
  · go_ret
    exact ⟨Below.refl _ _, _, rfl⟩
  go_loopw [9, 10] (fun n i wr => ∃ (k : Nat) (N : Int), k ≤ ps.length ∧ -1 ≤ N ∧ N ≤ 1048576 ∧ n = .int .i64 N ∧ i = .int .i64 k ∧ Below w.heap.size w wr) (fun _ i _ => ps.length - (intOf i).toNat)
  case atStart => exact ⟨0, _, Nat.zero_le _, by omega, by omega, rfl, rfl, Below.refl _ _⟩
  case round =>
    obtain ⟨k, N, hk, hN0, hN1, rfl, rfl, hB⟩ := hrel
    by_cases hlt : k < ps.length
    · by_cases hN : 0 ≤ N
      · obtain ⟨p, hpk⟩ : ∃ p, ps[k]? = some p := ⟨_, List.getElem?_eq_getElem hlt⟩
        obtain ⟨b, off, ha, hb, hat⟩ := hP k p hpk
        rw [ha]
        obtain ⟨hpf, hpb⟩ := (hpt p (List.mem_of_getElem? hpk)).below hB
        obtain ⟨c0, c1, c2, c3, c4, c5, c6⟩ := hat.below hB hb
        clear hpk hP ha hpt hat
        have hz := hB.size
        have hbz : b < wr.heap.size := by omega
        cases hfi : p.fi with
        | none =>
          rw [hfi] at c4
          clear hpf
          cases hbp : p.bp with
          | none =>
            rw [hbp] at c6
            clear hpb
            go_wp2_with (go_at_call 20; refine (grow_any _ _ _ (by omega) (by omega)).mono ?_; rintro e w' ⟨rfl, z, hz0, hz1, rfl⟩)
            go_roundw
            case rel => exact ⟨k + 1, _, by omega, by omega, by omega, rfl, by go_num, hB.alloc hz _⟩
            case measure => simp [intOf]; omega
          | some q =>
            rw [hbp] at c6
            obtain ⟨qb, qo, m, rfl, hqb, hqc, hqm⟩ := hpb q hbp
            clear hpb
            cases m with
            | none =>
              clear hqm
              go_wp2_with (go_at_call 20; refine (grow_any _ _ _ (by omega) (by omega)).mono ?_; rintro e w' ⟨rfl, z, hz0, hz1, rfl⟩)
              go_roundw
              case rel => exact ⟨k + 1, _, by omega, by omega, by omega, rfl, by go_num, hB.alloc hz _⟩
              case measure => simp [intOf]; omega
            | some q' =>
              obtain ⟨mb, mo, ms, rfl, hmb, hmc⟩ := hqm q' rfl
              clear hqm
              go_wp2_with (go_at_call 20; refine (grow_any _ _ _ (by omega) (by omega)).mono ?_; rintro e w' ⟨rfl, z, hz0, hz1, rfl⟩)
              go_roundw
              case rel => exact ⟨k + 1, _, by omega, by omega, by omega, rfl, by go_num, hB.alloc hz _⟩
              case measure => simp [intOf]; omega
        | some f =>
          rw [hfi] at c4
          obtain ⟨fb, fo, fs, rfl, hfb, hfc⟩ := hpf f hfi
          clear hpf
          cases hbp : p.bp with
          | none =>
            rw [hbp] at c6
            clear hpb
            go_wp2_with (go_at_call 20; refine (grow_any _ _ _ (by omega) (by omega)).mono ?_; rintro e w' ⟨rfl, z, hz0, hz1, rfl⟩)
            go_roundw
            case rel => exact ⟨k + 1, _, by omega, by omega, by omega, rfl, by go_num, hB.alloc hz _⟩
            case measure => simp [intOf]; omega
          | some q =>
            rw [hbp] at c6
            obtain ⟨qb, qo, m, rfl, hqb, hqc, hqm⟩ := hpb q hbp
            clear hpb
            cases m with
            | none =>
              clear hqm
              go_wp2_with (go_at_call 20; refine (grow_any _ _ _ (by omega) (by omega)).mono ?_; rintro e w' ⟨rfl, z, hz0, hz1, rfl⟩)
              go_roundw
              case rel => exact ⟨k + 1, _, by omega, by omega, by omega, rfl, by go_num, hB.alloc hz _⟩
              case measure => simp [intOf]; omega
            | some q' =>
              obtain ⟨mb, mo, ms, rfl, hmb, hmc⟩ := hqm q' rfl
              clear hqm
              go_wp2_with (go_at_call 20; refine (grow_any _ _ _ (by omega) (by omega)).mono ?_; rintro e w' ⟨rfl, z, hz0, hz1, rfl⟩)
              go_roundw
              case rel => exact ⟨k + 1, _, by omega, by omega, by omega, rfl, by go_num, hB.alloc hz _⟩
              case measure => simp [intOf]; omega
      · clear hP hpt
        go_wp2
        go_ret
        first | exact ⟨hB, _, rfl⟩ | exact ⟨hB, .inl rfl⟩ | exact ⟨hB, .inr rfl⟩
    · clear hP hpt
      go_wp2
      go_ret
      first | exact ⟨hB, _, rfl⟩ | exact ⟨hB, .inl rfl⟩ | exact ⟨hB, .inr rfl⟩
end Go.Proofs.Qxb6613844aFmt
