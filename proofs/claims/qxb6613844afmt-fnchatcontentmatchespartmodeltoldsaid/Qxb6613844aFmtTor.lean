/- zzlaws' toResponsesParts: the parts handed over one to one into a fresh slice. -/
import Derived.Test.Qxb6613844aFmtReads
import Derived.Test.Qxb6613844aFmtNil
import Derived.OwnWalk
import Derived.Laws.OwnMore
namespace Go.Proofs.Qxb6613844aFmt
open Go.RowKit
attribute [local go_sem] eqlNil22

def LP.cells (p : LP) : List Value := [.string p.ty, .string p.tx, .string p.rf, .string p.iu, .pointer p.fi, .string p.dt, .pointer p.bp]

/-- What of a part does not hang on the breakpoint's address. -/
def LP.key (p : LP) : LP := { p with bp := p.bp.map fun _ => ⟨0, 0, none⟩ }

theorem info53 : (Tryf.prog.info? 53).map (fun i => (i.zero, i.size, i.bytes)) = some (some (.agg #[.string ⟨#[]⟩, .string ⟨#[]⟩, .string ⟨#[]⟩, .string ⟨#[]⟩, .pointer none, .string ⟨#[]⟩, .pointer none]), 7, 96) := by kernel_rfl

/-- The first parts of the row are laid. -/
def Laid7 (xs : List Value) (qs : List LP) : Prop := ∀ (i : Nat) (q : LP), qs[i]? = some q → ∀ (j : Nat) (v : Value), q.cells[j]? = some v → xs[i * 7 + j]? = some v

theorem laid7_snoc {xs : List Value} {qs : List LP} {q : LP} (h : Laid7 xs qs) (hk : qs.length * 7 + 6 < xs.length) :
    Laid7 (((((((xs.set (qs.length * 7) (.string q.ty)).set (qs.length * 7 + 1) (.string q.tx)).set (qs.length * 7 + 2) (.string q.rf)).set (qs.length * 7 + 3) (.string q.iu)).set (qs.length * 7 + 4) (.pointer q.fi)).set (qs.length * 7 + 5) (.string q.dt)).set (qs.length * 7 + 6) (.pointer q.bp)) (qs ++ [q]) := by
  intro i r hr j v hv
  have hj : j < 7 := by
    have := (List.getElem?_eq_some_iff.1 hv).1
    simpa [LP.cells] using this
  by_cases hi : i < qs.length
  · rw [List.getElem?_append_left hi] at hr
    have h0 := h i r hr j v hv
    have hlt : i * 7 + j < qs.length * 7 := by omega
    simp only [List.getElem?_set]
    rw [if_neg (by omega), if_neg (by omega), if_neg (by omega), if_neg (by omega), if_neg (by omega), if_neg (by omega), if_neg (by omega)]
    exact h0
  · have hi' : i = qs.length := by
      have := (List.getElem?_eq_some_iff.1 hr).1
      simp at this
      omega
    subst hi'
    rw [List.getElem?_append_right (Nat.le_refl _)] at hr
    simp at hr
    subst hr
    have h7 : j = 0 ∨ j = 1 ∨ j = 2 ∨ j = 3 ∨ j = 4 ∨ j = 5 ∨ j = 6 := by omega
    rcases h7 with rfl | rfl | rfl | rfl | rfl | rfl | rfl <;> simp [LP.cells] at hv <;> subst hv <;> simp [List.getElem?_set] <;> omega

theorem lies_of_row {w : World} {B I n cap : Nat} {xs : List Value} {qs : List LP} (hown : w.ownsRow B 53 7 (.slice (some ⟨I, 0, none⟩) n cap) n xs) (hl : Laid7 xs qs) (hq : qs.length ≤ n) : Lies w ⟨I, 0, none⟩ qs := by
  intro i q hi
  have hlt := (List.getElem?_eq_some_iff.1 hi).1
  refine ⟨I, 0, rfl, (hown.lt I rfl).2, ?_⟩
  have c : ∀ (j : Nat) (v : Value), q.cells[j]? = some v → w.cell? ⟨I, 0 + i * 7 + j, none⟩ = some v := by
    intro j v hj
    have hj7 : j < 7 := by
      have := (List.getElem?_eq_some_iff.1 hj).1
      simpa [LP.cells] using this
    have := hown.cellAt (0 + i * 7 + j) (by omega)
    rw [this, Nat.zero_add]
    exact hl i q hi j v hj
  exact ⟨c 0 _ rfl, c 1 _ rfl, c 2 _ rfl, c 3 _ rfl, c 4 _ rfl, c 5 _ rfl, c 6 _ rfl⟩

theorem row7 {w : World} {B I n : Nat} {xs : List Value} (hown : w.ownsRow B 53 7 (.slice (some ⟨I, 0, none⟩) n n) n xs) (o : Nat) (u0 u1 u2 u3 u4 u5 u6 : Value) :
    (((((((w.setCell ⟨I, o, none⟩ u0).setCell ⟨I, o + 1, none⟩ u1).setCell ⟨I, o + 2, none⟩ u2).setCell ⟨I, o + 3, none⟩ u3).setCell ⟨I, o + 4, none⟩ u4).setCell ⟨I, o + 5, none⟩ u5).setCell ⟨I, o + 6, none⟩ u6).ownsRow B 53 7 (.slice (some ⟨I, 0, none⟩) n n) n (((((((xs.set o u0).set (o + 1) u1).set (o + 2) u2).set (o + 3) u3).set (o + 4) u4).set (o + 5) u5).set (o + 6) u6) :=
  ((((((((hown.stored o u0).1).stored (o + 1) u1).1).stored (o + 2) u2).1.stored (o + 3) u3).1.stored (o + 4) u4).1.stored (o + 5) u5).1.stored (o + 6) u6 |>.1

theorem below7 {w wr : World} {B I : Nat} (hB : Below B w wr) (hI : B ≤ I) (o : Nat) (u0 u1 u2 u3 u4 u5 u6 : Value) :
    Below B w (((((((wr.setCell ⟨I, o, none⟩ u0).setCell ⟨I, o + 1, none⟩ u1).setCell ⟨I, o + 2, none⟩ u2).setCell ⟨I, o + 3, none⟩ u3).setCell ⟨I, o + 4, none⟩ u4).setCell ⟨I, o + 5, none⟩ u5).setCell ⟨I, o + 6, none⟩ u6) :=
  ((((((hB.setCell (p := ⟨I, o, none⟩) hI _).setCell (p := ⟨I, o + 1, none⟩) hI _).setCell (p := ⟨I, o + 2, none⟩) hI _).setCell (p := ⟨I, o + 3, none⟩) hI _).setCell (p := ⟨I, o + 4, none⟩) hI _).setCell (p := ⟨I, o + 5, none⟩) hI _).setCell (p := ⟨I, o + 6, none⟩) hI _

theorem key_snoc {ps qs : List LP} {p q : LP} {k : Nat} (hkey : qs.map LP.key = (ps.take k).map LP.key) (hpk : ps[k]? = some p) (hq : q.key = p.key) : (qs ++ [q]).map LP.key = (ps.take (k + 1)).map LP.key := by
  rw [take_snoc hpk, List.map_append, List.map_append, hkey]
  simp [hq]

set_option maxHeartbeats 1000000 in
theorem tor_any (a : Addr) (cap : Nat) (ps : List LP) (w : World) (hn : ps.length ≤ 1048576) (hP : Lies w a ps)
    (hbp : ∀ p ∈ ps, ∀ q, p.bp = some q → ∃ b o m, q = ⟨b, o, none⟩ ∧ b < w.heap.size ∧ w.cell? ⟨b, o, none⟩ = some (.pointer m)) :
    Calls Tryf.prog 7 #[.slice (some a) ps.length cap] w fun e w' => ∃ qs : List LP, e = .returned (.slice (some ⟨w.heap.size, 0, none⟩) ps.length ps.length) ∧ qs.map LP.key = ps.map LP.key ∧ Lies w' ⟨w.heap.size, 0, none⟩ qs ∧ Below w.heap.size w w' := by
  obtain ⟨i0, hi, hz0, hz1, hz2⟩ := info_parts info53
  have hb2 : i0.bytes * ps.length ≤ 281474976710656 := by rw [hz2]; omega
  clear hz2
  go_enter Tryf.func7, Tryf.ntmps7
  go_wp2_with (at_make; refine wpList_make_full _ rfl _ _ 25 rfl w.heap.size 53 i0 _ 7 Tryf.underlying25 hi hz0 hz1 .i64 .i64 _ _ ps.length rfl rfl rfl rfl hb2 (by unfold maxLen; omega) (Nat.le_refl _) ?_)
  intro w1 hown1 hgrow1
  go_wp2
  have HG : Hid (Below w.heap.size w w1) := (Below.refl _ w).grown hgrow1 (Nat.le_refl _) (by simp)
  have HO : Hid (w1.ownsRow w.heap.size 53 7 (.slice (some ⟨w.heap.size, 0, none⟩) ps.length ps.length) ps.length (madeCells (Value.agg #[.string ⟨#[]⟩, .string ⟨#[]⟩, .string ⟨#[]⟩, .string ⟨#[]⟩, .pointer none, .string ⟨#[]⟩, .pointer none]).cells (ps.length * 7)).toList) := hown1
  clear hown1 hgrow1 hi hz0 hz1 hb2
  go_loopw [4] (fun i wr => ∃ (k : Nat) (qs : List LP) (xs : List Value), k ≤ ps.length ∧ i = .int .i64 k ∧ qs.length = k ∧ qs.map LP.key = (ps.take k).map LP.key ∧ wr.ownsRow w.heap.size 53 7 (.slice (some ⟨w.heap.size, 0, none⟩) ps.length ps.length) ps.length xs ∧ Laid7 xs qs ∧ Below w.heap.size w wr) (fun i _ => ps.length - (intOf i).toNat)
  case atStart => exact ⟨0, [], _, Nat.zero_le _, rfl, rfl, rfl, HO.out, fun _ _ h => by simp at h, HG.out⟩
  case round =>
    obtain ⟨k, qs, xs, hk, rfl, hqk, hkey, hown, hl7, hB⟩ := hrel
    by_cases hlt : k < ps.length
    · obtain ⟨p, hpk⟩ : ∃ p, ps[k]? = some p := ⟨_, List.getElem?_eq_getElem hlt⟩
      obtain ⟨b, off, ha, hb, hat⟩ := hP k p hpk
      have hbp' := hbp p (List.mem_of_getElem? hpk)
      rw [ha]
      obtain ⟨c0, c1, c2, c3, c4, c5, c6⟩ := hat.below hB hb
      have hlen : xs.length = ps.length * 7 := hown.1
      have hz : w.heap.size < wr.heap.size := (hown.lt _ rfl).2
      have hbz : b < wr.heap.size := by omega
      have d : ∀ j, j < 7 → ∃ v, wr.cell? ⟨w.heap.size, k * 7 + j, none⟩ = some v := by
        intro j hj
        exact ⟨xs[k * 7 + j]'(by omega), by rw [hown.cellAt (k * 7 + j) (by omega)]; exact List.getElem?_eq_getElem (by omega)⟩
      obtain ⟨v0, d0⟩ := d 0 (by decide)
      obtain ⟨v1, d1⟩ := d 1 (by decide)
      obtain ⟨v2, d2⟩ := d 2 (by decide)
      obtain ⟨v3, d3⟩ := d 3 (by decide)
      obtain ⟨v4, d4⟩ := d 4 (by decide)
      obtain ⟨v5, d5⟩ := d 5 (by decide)
      obtain ⟨v6, d6⟩ := d 6 (by decide)
      rw [Nat.add_zero] at d0
      have f : ∀ j, wr.frozen? ⟨w.heap.size, j, none⟩ = false := fun j => hown.frozenAt j
      have H1 : Hid (qs.length = k ∧ qs.map LP.key = (ps.take k).map LP.key ∧ wr.ownsRow w.heap.size 53 7 (.slice (some ⟨w.heap.size, 0, none⟩) ps.length ps.length) ps.length xs ∧ Laid7 xs qs ∧ ps[k]? = some p ∧ xs.length = ps.length * 7) := ⟨hqk, hkey, hown, hl7, hpk, hlen⟩
      clear hqk hkey hown hl7 hpk hlen d hP hat ha hbp HO HG
      cases hpb : p.bp with
      | none =>
        rw [hpb] at c6
        go_wp2
        go_roundw
        case rel =>
          obtain ⟨hqk, hkey, hown, hl7, hpk, hlen⟩ := H1.out
          have hq : ({ p with bp := none } : LP).key = p.key := by simp [LP.key, hpb]
          refine ⟨k + 1, qs ++ [{ p with bp := none }], _, by omega, by go_num, by simp [hqk], key_snoc hkey hpk hq, (row7 hown (k * 7) _ _ _ _ _ _ _).alloc _, ?_, (below7 hB (Nat.le_refl _) (k * 7) _ _ _ _ _ _ _).alloc (by simp [World.setCell]; omega) _⟩
          have := laid7_snoc (q := { p with bp := none }) hl7 (by omega)
          rw [hqk] at this
          exact this
        case measure => simp [intOf]; omega
      | some q =>
        obtain ⟨qb, qo, m, rfl, hqb, hqc⟩ := hbp' q hpb
        have hqc' : wr.cell? ⟨qb, qo, none⟩ = some (.pointer m) := (hB.cell (p := ⟨qb, qo, none⟩) hqb).trans hqc
        have hqz : qb < wr.heap.size := by omega
        clear hqc hbp'
        rw [hpb] at c6
        go_wp2
        go_roundw
        case rel =>
          obtain ⟨hqk, hkey, hown, hl7, hpk, hlen⟩ := H1.out
          have hq : ({ p with bp := some ⟨wr.heap.size + 1, 0, none⟩ } : LP).key = p.key := by simp [LP.key, hpb]
          refine ⟨k + 1, qs ++ [{ p with bp := some ⟨wr.heap.size + 1, 0, none⟩ }], _, by omega, by go_num, by simp [hqk], key_snoc hkey hpk hq, ((row7 hown (k * 7) _ _ _ _ _ _ _).alloc _).alloc _, ?_, ((below7 hB (Nat.le_refl _) (k * 7) _ _ _ _ _ _ _).alloc (by simp [World.setCell]; omega) _).alloc (by simp [World.setCell]; omega) _⟩
          have := laid7_snoc (q := { p with bp := some ⟨wr.heap.size + 1, 0, none⟩ }) hl7 (by omega)
          rw [hqk] at this
          exact this
        case measure => simp [intOf]; omega
    · go_wp2
      go_ret
      refine ⟨qs, rfl, ?_, lies_of_row hown hl7 (by omega), hB⟩
      rw [hkey, List.take_of_length_le (by omega)]
end Go.Proofs.Qxb6613844aFmt
