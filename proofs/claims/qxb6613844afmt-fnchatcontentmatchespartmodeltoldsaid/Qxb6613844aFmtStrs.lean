/- Slices of strings: refusalTexts. -/
import Derived.Test.Qxb6613844aFmtReads
import Derived.OwnWalk
import Derived.Laws.OwnMore
import Derived.Lib.Join
import Derived.Lib.AppendStr
import Derived.Lib.UnsafeStr
namespace Go.Proofs.Qxb6613844aFmt
open Go.RowKit

/-- The slice value '.slice a ss.length c' holds the strings ss. -/
def Strs (w : World) (a : Option Addr) (c : Nat) (ss : List ByteArray) : Prop :=
  ss.length ≤ c ∧ (ss = [] ∨ ∃ g, a = some ⟨g, 0, none⟩ ∧ g < w.heap.size ∧ ∀ (j : Nat) (x : ByteArray), ss[j]? = some x → w.cell? ⟨g, 0 + j, none⟩ = some (.string x))

theorem Strs.below {w w' : World} {B : Nat} {a : Option Addr} {c : Nat} {ss : List ByteArray} (h : Strs w a c ss) (hB : Below B w w') (hb : w.heap.size ≤ B) : Strs w' a c ss := by
  refine ⟨h.1, ?_⟩
  rcases h.2 with h0 | ⟨g, ha, hg, hc⟩
  · exact .inl h0
  · exact .inr ⟨g, ha, by have := hB.size; omega, fun j x hx => (hB.cell (p := ⟨g, 0 + j, none⟩) (by show g < B; omega)).trans (hc j x hx)⟩

theorem strs_of_row {w : World} {B : Nat} {v : Value} {ss : List ByteArray} (h : w.ownsRow B 9 1 v ss.length (ss.map Value.string)) : ∃ a c, v = .slice a ss.length c ∧ Strs w a c ss := by
  rcases h.2 with ⟨hv, h0⟩ | ⟨g, cap, cur, hv, hb, hg, hnc, _⟩
  · have : ss = [] := List.eq_nil_of_length_eq_zero h0
    subst this
    exact ⟨none, 0, hv, Nat.le_refl _, .inl rfl⟩
  · refine ⟨_, cap, hv, hnc, .inr ⟨g, rfl, (h.lt g (by rw [hv]; rfl)).2, ?_⟩⟩
    intro j x hx
    rw [hv] at h
    have hj := (List.getElem?_eq_some_iff.1 hx).1
    rw [Nat.zero_add, h.cellAt j (by omega)]
    simp [hx]

theorem info9 : (Tryf.prog.info? 9).map (fun i => (i.zero, i.size, i.bytes)) = some (some (.string ⟨#[]⟩), 1, 16) := by kernel_rfl

theorem refs_len (role : ByteArray) (ps : List LP) (k : Nat) : ((ps.take k).filter (ref role)).length ≤ k :=
  Nat.le_trans (List.length_filter_le _ _) (List.length_take_le _ _)

set_option maxHeartbeats 1000000 in
theorem refs_any (role : ByteArray) (a : Addr) (cap : Nat) (ps : List LP) (w : World) (hn : ps.length ≤ 1048576) (hP : Lies w a ps) :
    Calls Tryf.prog 10 #[.string role, .slice (some a) ps.length cap] w fun e w' => ∃ a' c, e = .returned (.slice a' ((ps.filter (ref role)).map LP.rf).length c) ∧ Strs w' a' c ((ps.filter (ref role)).map LP.rf) ∧ Below w.heap.size w w' := by
  obtain ⟨i0, hi, hz0, hz1, hz2⟩ := info_parts info9
  go_enter Tryf.func10, Tryf.ntmps10
  go_wp2
  go_loopw [5, 6] (fun v i wr => ∃ (k : Nat) (S : List ByteArray), k ≤ ps.length ∧ S.length ≤ k ∧ i = .int .i64 k ∧ Hid (S = ((ps.take k).filter (ref role)).map LP.rf) ∧ wr.ownsRow w.heap.size 9 1 v S.length (S.map Value.string) ∧ Below w.heap.size w wr) (fun _ i _ => ps.length - (intOf i).toNat)
  case atStart => exact ⟨0, [], Nat.zero_le _, Nat.le_refl _, rfl, rfl, World.ownsRow_nil _ _ _ _, Below.refl _ _⟩
  case round =>
    obtain ⟨k, S, hk, hSk, rfl, HS, hown, hB⟩ := hrel
    by_cases hlt : k < ps.length
    · obtain ⟨va, vc, hv, _⟩ := strs_of_row hown
      obtain ⟨p, hpk⟩ : ∃ p, ps[k]? = some p := ⟨_, List.getElem?_eq_getElem hlt⟩
      obtain ⟨b, off, ha, hb, hat⟩ := hP k p hpk
      rw [ha, hv]
      obtain ⟨c0, c1, c2, c3, c4, c5, c6⟩ := hat.below hB hb
      have hsn : Hid ((ps.take (k + 1)).filter (ref role) = if ref role p = true then (ps.take k).filter (ref role) ++ [p] else (ps.take k).filter (ref role)) := by
        show _ = _
        rw [take_snoc hpk, filter_snoc]
      have HO : Hid (wr.ownsRow w.heap.size 9 1 (.slice va S.length vc) S.length (S.map Value.string)) := by rw [hv] at hown; exact hown
      clear hpk hat hP ha hown hv
      have hz := hB.size
      have hbz : b < wr.heap.size := by omega
      by_cases hc : cls role p = 1
      · have hc' : (cls role p == 1) = true := by simp [hc]
        clear hc
        go_wp2_with (first | (go_at_call 13; refine (class_any role p _).mono ?_; rintro e w' ⟨rfl, cs, rfl⟩) | (at_builtin; refine wpList_append_own _ rfl _ _ 39 rfl w.heap.size 9 i0 (.string ⟨#[]⟩) 1 16 Tryf.underlying39 hi hz0 hz1 hz2 rfl (by decide) _ _ _ rfl ((HO.out.alloc _).alloc _) ⟨wr.heap.size + 1, 0, none⟩ 1 1 [.string p.rf] rfl rfl ?c1 ?c2 ?c3 ?c4 ?c5 ?_))
        case c1 =>
          intro j u hj
          match j, hj with
          | 0, hj => simp at hj; subst hj; simp [Addr.add]
        case c2 => intro u hu; simp at hu; subst hu; rfl
        case c3 => unfold maxLen; omega
        case c4 => omega
        case c5 => simp; omega
        intro v' w2 hown' hgrow _
        have hown2 : w2.ownsRow w.heap.size 9 1 v' (S ++ [p.rf]).length ((S ++ [p.rf]).map Value.string) := by simpa using hown'
        have hB2 : Below w.heap.size w w2 := ((hB.alloc hz _).alloc (by simp; omega) _).grown hgrow (by simp; omega) (fun k' hk' => (HO.out.lt k' hk').1)
        have HO2 : Hid (w2.ownsRow w.heap.size 9 1 v' (S ++ [p.rf]).length ((S ++ [p.rf]).map Value.string)) := hown2
        clear hown2 hown' hgrow
        go_wp2
        go_roundw
        case rel => exact ⟨k + 1, S ++ [p.rf], by omega, by simp; omega, by go_num, by show _ = _; rw [hsn.out, if_pos (by simp [ref, hc']), HS.out]; simp, HO2.out, hB2⟩
        case measure => simp [intOf]; omega
      · have hc' : (cls role p == 1) = false := by simp [hc]
        clear hc
        go_wp2_with (go_at_call 13; refine (class_any role p _).mono ?_; rintro e w' ⟨rfl, cs, rfl⟩)
        go_roundw
        case rel => exact ⟨k + 1, S, by omega, by omega, by go_num, by show _ = _; rw [hsn.out, if_neg (by simp [ref, hc']), HS.out], HO.out.alloc _, hB.alloc hz _⟩
        case measure => simp [intOf]; omega
    · obtain ⟨va, vc, hv, hS⟩ := strs_of_row hown
      have hS2 : S = (ps.filter (ref role)).map LP.rf := by rw [HS.out, List.take_of_length_le (by omega)]
      rw [hv]
      go_wp2
      go_ret
      rw [← hS2]
      exact ⟨_, _, rfl, hS, hB⟩
end Go.Proofs.Qxb6613844aFmt
