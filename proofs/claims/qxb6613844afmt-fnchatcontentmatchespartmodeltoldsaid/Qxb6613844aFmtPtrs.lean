/- What a part points to; the bounds that the law's guard lays. -/
import Derived.Test.Qxb6613844aFmtReads
namespace Go.Proofs.Qxb6613844aFmt
open Go.RowKit

/-- What a part points to. -/
def Ptrs (w : World) (p : LP) : Prop :=
  (∀ q, p.fi = some q → ∃ b o s, q = ⟨b, o, none⟩ ∧ b < w.heap.size ∧ w.cell? ⟨b, o, none⟩ = some (.string s)) ∧
  (∀ q, p.bp = some q → ∃ b o m, q = ⟨b, o, none⟩ ∧ b < w.heap.size ∧ w.cell? ⟨b, o, none⟩ = some (.pointer m) ∧ ∀ q', m = some q' → ∃ b' o' s, q' = ⟨b', o', none⟩ ∧ b' < w.heap.size ∧ w.cell? ⟨b', o', none⟩ = some (.string s))

def Sized (role text path : ByteArray) (ps : List LP) : Prop :=
  role.size ≤ 1048576 ∧ text.size ≤ 1048576 ∧ path.size ≤ 1048576 ∧ ps.length ≤ 1048576 ∧ ∀ p ∈ ps, p.rf.size ≤ 1048576 ∧ p.tx.size ≤ 1048576

theorem Ptrs.below {w w' : World} {p : LP} (h : Ptrs w p) (hB : Below w.heap.size w w') : Ptrs w' p := by
  obtain ⟨h1, h2⟩ := h
  have hz := hB.size
  refine ⟨fun q hq => ?_, fun q hq => ?_⟩
  · obtain ⟨b, o, s, rfl, hb, hc⟩ := h1 q hq
    exact ⟨b, o, s, rfl, by omega, (hB.cell (p := ⟨b, o, none⟩) hb).trans hc⟩
  · obtain ⟨b, o, m, rfl, hb, hc, hm⟩ := h2 q hq
    refine ⟨b, o, m, rfl, by omega, (hB.cell (p := ⟨b, o, none⟩) hb).trans hc, fun q' hq' => ?_⟩
    obtain ⟨b', o', s, rfl, hb', hc'⟩ := hm q' hq'
    exact ⟨b', o', s, rfl, by omega, (hB.cell (p := ⟨b', o', none⟩) hb').trans hc'⟩

theorem Lies.below {w w' : World} {a : Addr} {ps : List LP} (h : Lies w a ps) (hB : Below w.heap.size w w') : Lies w' a ps := by
  intro i p hp
  obtain ⟨b, off, ha, hb, hat⟩ := h i p hp
  exact ⟨b, off, ha, by have := hB.size; omega, hat.below hB hb⟩
end Go.Proofs.Qxb6613844aFmt
