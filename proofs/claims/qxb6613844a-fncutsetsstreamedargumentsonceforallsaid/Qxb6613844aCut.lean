/- (*streamedFunctionCall).cut. -/
import Derived.Test.Qxb6613844aWalks
import Derived.WalkSpells
namespace Go.Proofs.Qxb6613844a
open Go.RowKit

def inc : ByteArray := ⟨#[105, 110, 99, 111, 109, 112, 108, 101, 116, 101]⟩

theorem Sfc.setOther {B b N j : Nat} {ip ix p : Value} {bs : List Value} {w : World} (h : Sfc B b ip ix p bs w) (hN : N < B) (u : Value) : Sfc B b ip ix p bs (w.setCell ⟨N, j, none⟩ u) := by
  obtain ⟨hB, v, hb, hown, hne⟩ := h
  refine ⟨hB, v, ?_, ?_, hne⟩
  · rw [Below.heap_setCell _ _ _ _ (by simp only; omega)]
    exact hb
  · refine hown.kept (row := some N) ⟨rfl, rfl, rfl, by simp [World.setCell], fun k _ hk => Below.heap_setCell _ _ _ _ (fun e => hk (by simp [e]))⟩ ?_
    cases hv : v.ownBlock with
    | none => exact .inl rfl
    | some k => exact .inr (by have := (hown.lt k hv).1; simp; omega)

theorem cut_end {N b : Nat} {ix p : Value} {l : List UInt8} {t i c ns nm ar st : Value} {w w1 : World}
    (hN : w.heap[N]? = some (.cells #[t, i, c, ns, nm, ar, st] 26 (0, 0))) (hNb : N < b) (hS1 : Sfc b b (.pointer (some ⟨N, 0, none⟩)) ix p (Lib.byteCells l) w1) (hB1 : Below b w.drew w1) (hK1 : Keep w.drew w1) :
    ((w1.setCell ⟨N, 5, none⟩ (.string ⟨l.toArray⟩)).setCell ⟨N, 6, none⟩ (.string inc)).heap[N]? = some (.cells #[t, i, c, ns, nm, .string ⟨l.toArray⟩, .string inc] 26 (0, 0)) ∧
    Sfc b b (.pointer (some ⟨N, 0, none⟩)) ix p (Lib.byteCells l) ((w1.setCell ⟨N, 5, none⟩ (.string ⟨l.toArray⟩)).setCell ⟨N, 6, none⟩ (.string inc)) ∧
    Below N w ((w1.setCell ⟨N, 5, none⟩ (.string ⟨l.toArray⟩)).setCell ⟨N, 6, none⟩ (.string inc)) ∧
    (∀ (k : Nat) (cs : Array Value) (T : TypeId) (fz : Nat × Nat), k ≠ N → w.heap[k]? = some (.cells cs T fz) → T ≠ 5 → ((w1.setCell ⟨N, 5, none⟩ (.string ⟨l.toArray⟩)).setCell ⟨N, 6, none⟩ (.string inc)).heap[k]? = some (.cells cs T fz)) := by
  have h1 : w1.heap[N]? = some (.cells #[t, i, c, ns, nm, ar, st] 26 (0, 0)) := (hB1.block N hNb).trans hN
  refine ⟨by simp [World.setCell, Array.getElem?_modify, h1], (hS1.setOther hNb _).setOther hNb _, ?_, ?_⟩
  · exact ((((Below.refl N w).drew).trans (hB1.mono (by omega))).setCell (p := ⟨N, 5, none⟩) (Nat.le_refl _) _).setCell (p := ⟨N, 6, none⟩) (Nat.le_refl _) _
  · intro k cs T fz hk h hT
    rw [Below.heap_setCell _ _ _ _ hk, Below.heap_setCell _ _ _ _ hk]
    exact hK1 k cs T fz h hT

set_option maxHeartbeats 1000000 in
theorem cut_low (N b : Nat) (ix p : Value) (l : List UInt8) (t i c ns nm ar st : Value) (w : World)
    (hN : w.heap[N]? = some (.cells #[t, i, c, ns, nm, ar, st] 26 (0, 0))) (hS : Sfc b b (.pointer (some ⟨N, 0, none⟩)) ix p (Lib.byteCells l) w) (hNb : N < b) :
    Calls Try.prog 10 #[.pointer (some ⟨b, 0, none⟩)] w fun e w' => e = .returned (.tuple #[]) ∧ w'.heap[N]? = some (.cells #[t, i, c, ns, nm, .string ⟨l.toArray⟩, .string inc] 26 (0, 0)) ∧ Sfc b b (.pointer (some ⟨N, 0, none⟩)) ix p (Lib.byteCells l) w' ∧ Below N w w' ∧ (∀ (k : Nat) (cs : Array Value) (T : TypeId) (fz : Nat × Nat), k ≠ N → w.heap[k]? = some (.cells cs T fz) → T ≠ 5 → w'.heap[k]? = some (.cells cs T fz)) := by
  have hlt := hS.lt
  obtain ⟨_, v, hbk, hown, hne⟩ := hS
  have hS : Sfc b b (.pointer (some ⟨N, 0, none⟩)) ix p (Lib.byteCells l) w := ⟨Nat.le_refl _, v, hbk, hown, hne⟩
  have c0 : w.cell? ⟨b, 0, none⟩ = some (.pointer (some ⟨N, 0, none⟩)) := by rw [Lib.cell_of_heap hbk]; rfl
  have HS : Hid (Sfc b b (.pointer (some ⟨N, 0, none⟩)) ix p (Lib.byteCells l) w) := hS
  clear hS hbk hown hne
  have HN : Hid (w.heap[N]? = some (.cells #[t, i, c, ns, nm, ar, st] 26 (0, 0))) := hN
  clear hN
  have HC : Hid (Calls Try.prog 12 #[.pointer (some ⟨b, 2, none⟩)] w.drew fun e w' => e = .returned (.string ⟨l.toArray⟩) ∧ Sfc b b (.pointer (some ⟨N, 0, none⟩)) ix p (Lib.byteCells l) w' ∧ Below b w.drew w' ∧ Keep w.drew w') := str_any b b (.pointer (some ⟨N, 0, none⟩)) ix p l w.drew HS.out (by show b ≤ w.heap.size; omega)
  go_enter Try.func10, Try.ntmps10
  go_wp2
  go_region_with (go_at_call 12; go_must (refine (HC.out).mono ?_; rintro e w1 ⟨rfl, hS1, hB1, hK1⟩; have c01 : w1.cell? ⟨b, 0, none⟩ = some (.pointer (some ⟨N, 0, none⟩)) := (by obtain ⟨_, _, h, _⟩ := hS1; rw [Lib.cell_of_heap h]; rfl); have c51 : w1.cell? ⟨N, 5, none⟩ = some ar := (by have h := hB1.block N hNb; rw [Lib.cell_of_heap (h.trans HN.out)]; rfl); have f51 : w1.frozen? ⟨N, 5, none⟩ = false := (by have h := hB1.block N hNb; exact Lib.frozen_of_heap (h.trans HN.out) 5); have c61 : w1.cell? ⟨N, 6, none⟩ = some st := (by have h := hB1.block N hNb; rw [Lib.cell_of_heap (h.trans HN.out)]; rfl); have f61 : w1.frozen? ⟨N, 6, none⟩ = false := (by have h := hB1.block N hNb; exact Lib.frozen_of_heap (h.trans HN.out) 6)))
  all_goals
    go_wp2
    go_end0
    exact ⟨rfl, cut_end HN.out hNb hS1 hB1 hK1⟩

theorem cut_any (N b : Nat) (ix p : Value) (l : List UInt8) (t i c ns nm ar st : Value) (w : World)
    (hN : w.heap[N]? = some (.cells #[t, i, c, ns, nm, ar, st] 26 (0, 0))) (hS : Sfc b b (.pointer (some ⟨N, 0, none⟩)) ix p (Lib.byteCells l) w) (hNb : N < b) :
    Calls Try.prog 7 #[.pointer (some ⟨b, 0, none⟩)] w fun e w' => e = .returned (.tuple #[]) ∧ w'.heap[N]? = some (.cells #[t, i, c, ns, nm, .string ⟨l.toArray⟩, .string inc] 26 (0, 0)) ∧ Sfc b b (.pointer (some ⟨N, 0, none⟩)) ix p (Lib.byteCells l) w' ∧ Below N w w' ∧ (∀ (k : Nat) (cs : Array Value) (T : TypeId) (fz : Nat × Nat), k ≠ N → w.heap[k]? = some (.cells cs T fz) → T ≠ 5 → w'.heap[k]? = some (.cells cs T fz)) := by
  have HN : Hid (w.heap[N]? = some (.cells #[t, i, c, ns, nm, ar, st] 26 (0, 0))) := hN
  have HS : Hid (Sfc b b (.pointer (some ⟨N, 0, none⟩)) ix p (Lib.byteCells l) w) := hS
  clear hN hS
  go_enter Try.func7, Try.ntmps7
  go_wp2_with (go_at_call 10; refine (cut_low N b ix p l t i c ns nm ar st _ HN.out HS.out hNb).mono ?_; rintro e w1 ⟨rfl, h1, h2, h3, h4⟩)
  go_end0
  exact ⟨rfl, h1, h2, h3, h4⟩

end Go.Proofs.Qxb6613844a
