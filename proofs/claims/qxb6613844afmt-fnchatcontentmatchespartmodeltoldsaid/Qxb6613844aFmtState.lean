/- What chatContent's loop has built after some parts, in memory; one lemma for what each kind of part does to it. -/
import Derived.Test.Qxb6613844aFmtReads
import Derived.Test.Qxb6613844aFmtMem
import Derived.Test.Qxb6613844aFmtStrs
namespace Go.Proofs.Qxb6613844aFmt
open Go.RowKit

def texts (role : ByteArray) (l : List LP) : List ByteArray := (l.filter (txt role)).map LP.tx
def refs (role : ByteArray) (l : List LP) : List ByteArray := (l.filter (ref role)).map LP.rf
def keeps (role : ByteArray) (p : LP) : Bool := (txt role p && p.bp.isSome) || (cls role p == 3 && !isTool role)
def keepB (role : ByteArray) (l : List LP) : Bool := l.any (keeps role)

/-- The four cells of a chat part made of p, its text or image boxed in block e.2. -/
def eCells (role : ByteArray) (e : LP × Nat) : List Value :=
  if cls role e.1 = 0 then [.string ⟨#[116, 101, 120, 116]⟩, .pointer (some ⟨e.2, 0, none⟩), .pointer none, .pointer e.1.bp]
  else [.string ⟨#[105, 109, 97, 103, 101, 95, 117, 114, 108]⟩, .pointer none, .pointer (some ⟨e.2, 0, none⟩), .pointer e.1.bp]

def Box (role : ByteArray) (w : World) (e : LP × Nat) : Prop :=
  if cls role e.1 = 0 then w.cell? ⟨e.2, 0, none⟩ = some (.string e.1.tx)
  else w.cell? ⟨e.2, 0, none⟩ = some (.string e.1.iu) ∧ w.cell? ⟨e.2, 1, none⟩ = some (.string e.1.dt)

theorem Box.same {role : ByteArray} {w w' : World} {e : LP × Nat} (h : Box role w e) (hb : w'.heap[e.2]? = w.heap[e.2]?) : Box role w' e := by
  have c : ∀ j, w'.cell? ⟨e.2, j, none⟩ = w.cell? ⟨e.2, j, none⟩ := fun j => World.cell?_of_block (a := ⟨e.2, j, none⟩) hb
  unfold Box at h ⊢
  split
  · rename_i h0; rw [if_pos h0] at h; rw [c]; exact h
  · rename_i h0; rw [if_neg h0] at h; rw [c, c]; exact h

structure St (role : ByteArray) (B gT gP n : Nat) (w0 wr : World) (l : List LP) (vR vI : Value) (EP EI : List (LP × Nat)) : Prop where
  bel : Below B w0 wr
  bT : B ≤ gT
  TP : gT < gP
  gz : gP < wr.heap.size
  T : wr.ownsRow B 9 1 (.slice (some ⟨gT, 0, none⟩) (texts role l).length n) (texts role l).length ((texts role l).map Value.string)
  P : wr.ownsRow B 51 4 (.slice (some ⟨gP, 0, none⟩) EP.length n) EP.length (EP.flatMap (eCells role))
  EPm : EP.map Prod.fst = l.filter (kept role)
  R : wr.ownsRow (gP + 1) 9 1 vR (refs role l).length ((refs role l).map Value.string)
  I : wr.ownsRow (gP + 1) 51 4 vI EI.length (EI.flatMap (eCells role))
  EIm : EI.map Prod.fst = l.filter (img role)
  Inil : EI = [] → vI = .slice none 0 0
  dRI : ∀ k, vR.ownBlock = some k → vI.ownBlock ≠ some k
  box : ∀ e, e ∈ EP ∨ e ∈ EI → gP < e.2 ∧ e.2 < wr.heap.size ∧ vR.ownBlock ≠ some e.2 ∧ vI.ownBlock ≠ some e.2 ∧ Box role wr e

theorem txt_ref {role : ByteArray} {p : LP} (h : cls role p = 0) : txt role p = true ∧ ref role p = false ∧ kept role p = true ∧ img role p = false := by
  simp [txt, ref, kept, img, h]
theorem ref_txt {role : ByteArray} {p : LP} (h : cls role p = 1) : txt role p = false ∧ ref role p = true ∧ kept role p = false ∧ img role p = false := by
  simp [txt, ref, kept, img, h]
theorem img_txt {role : ByteArray} {p : LP} (h : cls role p = 3) (ht : isTool role = true) : txt role p = false ∧ ref role p = false ∧ kept role p = false ∧ img role p = true := by
  simp [txt, ref, kept, img, h, ht]
theorem pic_txt {role : ByteArray} {p : LP} (h : cls role p = 3) (ht : isTool role = false) : txt role p = false ∧ ref role p = false ∧ kept role p = true ∧ img role p = false := by
  simp [txt, ref, kept, img, h, ht]

theorem texts_snoc (role : ByteArray) (l : List LP) (p : LP) : texts role (l ++ [p]) = if txt role p = true then texts role l ++ [p.tx] else texts role l := by
  unfold texts; rw [filter_snoc]; split <;> simp
theorem refs_snoc (role : ByteArray) (l : List LP) (p : LP) : refs role (l ++ [p]) = if ref role p = true then refs role l ++ [p.rf] else refs role l := by
  unfold refs; rw [filter_snoc]; split <;> simp

/-- A part that stays content (a text; an image outside a tool message): its row and its box are new. -/
theorem St.keptStep {role : ByteArray} {B gT gP n : Nat} {w0 wr w4 : World} {l : List LP} {vR vI : Value} {EP EI : List (LP × Nat)} {p : LP} {tb : Nat}
    (h : St role B gT gP n w0 wr l vR vI EP EI) (hk : kept role p = true) (hr : ref role p = false) (hi : img role p = false)
    (hF : Fr (fun k => k = gT ∨ k = gP) wr w4)
    (hT : w4.ownsRow B 9 1 (.slice (some ⟨gT, 0, none⟩) (texts role (l ++ [p])).length n) (texts role (l ++ [p])).length ((texts role (l ++ [p])).map Value.string))
    (hP : w4.ownsRow B 51 4 (.slice (some ⟨gP, 0, none⟩) (EP ++ [(p, tb)]).length n) (EP ++ [(p, tb)]).length ((EP ++ [(p, tb)]).flatMap (eCells role)))
    (hb1 : wr.heap.size ≤ tb) (hb2 : tb < w4.heap.size) (hb3 : Box role w4 (p, tb)) :
    St role B gT gP n w0 w4 (l ++ [p]) vR vI (EP ++ [(p, tb)]) EI := by
  have hgT : gT < wr.heap.size := Nat.lt_trans h.TP h.gz
  have hsz := hF.size
  have rl : ∀ k, vR.ownBlock = some k → gP + 1 ≤ k ∧ k < wr.heap.size := h.R.lt
  have il : ∀ k, vI.ownBlock = some k → gP + 1 ≤ k ∧ k < wr.heap.size := h.I.lt
  have hTP := h.TP
  refine ⟨hF.toBelow h.bel (by intro k hk; have := h.bT; omega) (by have := h.bT; omega), h.bT, h.TP, by have := h.gz; omega, hT, hP, ?_, ?_, ?_, ?_, h.Inil, h.dRI, ?_⟩
  · rw [filter_snoc, if_pos hk, List.map_append, h.EPm]; rfl
  · rw [refs_snoc, if_neg (by simp [hr])]
    exact hF.own h.R (by intro k hk' hx; have := rl k hk'; omega)
  · exact hF.own h.I (by intro k hk' hx; have := il k hk'; omega)
  · rw [filter_snoc, if_neg (by simp [hi]), h.EIm]
  · intro e he
    have old : (e ∈ EP ∨ e ∈ EI) → gP < e.2 ∧ e.2 < w4.heap.size ∧ vR.ownBlock ≠ some e.2 ∧ vI.ownBlock ≠ some e.2 ∧ Box role w4 e := by
      intro he
      obtain ⟨b1, b2, b3, b4, b5⟩ := h.box e he
      exact ⟨b1, by omega, b3, b4, b5.same (hF.block e.2 b2 (by omega))⟩
    rcases he with he | he
    · rw [List.mem_append] at he
      rcases he with he | he
      · exact old (.inl he)
      · simp at he
        subst he
        have hgz := h.gz
        exact ⟨by show gP < tb; omega, hb2, fun e => by have := rl _ e; simp only at this; omega, fun e => by have := il _ e; simp only at this; omega, hb3⟩
    · exact old (.inr he)

/-- A refusal. -/
theorem St.refStep {role : ByteArray} {B gT gP n : Nat} {w0 wr w4 : World} {l : List LP} {vR vR' vI : Value} {EP EI : List (LP × Nat)} {p : LP}
    (h : St role B gT gP n w0 wr l vR vI EP EI) (hc : cls role p = 1)
    (hF : Fr (fun k => vR.ownBlock = some k) wr w4)
    (hR : w4.ownsRow (gP + 1) 9 1 vR' (refs role (l ++ [p])).length ((refs role (l ++ [p])).map Value.string))
    (hloc : ∀ k, vR'.ownBlock = some k → vR.ownBlock = some k ∨ wr.heap.size ≤ k) :
    St role B gT gP n w0 w4 (l ++ [p]) vR' vI EP EI := by
  obtain ⟨t0, r0, k0, i0⟩ := ref_txt hc
  have hgT : gT < wr.heap.size := Nat.lt_trans h.TP h.gz
  have hsz := hF.size
  have rl : ∀ k, vR.ownBlock = some k → gP + 1 ≤ k ∧ k < wr.heap.size := h.R.lt
  have il : ∀ k, vI.ownBlock = some k → gP + 1 ≤ k ∧ k < wr.heap.size := h.I.lt
  have hTP := h.TP
  have hbT := h.bT
  have hgz := h.gz
  refine ⟨hF.toBelow h.bel (by intro k hk; have := rl k hk; omega) (by omega), h.bT, h.TP, by omega, ?_, ?_, ?_, hR, ?_, ?_, h.Inil, ?_, ?_⟩
  · rw [texts_snoc, if_neg (by simp [t0])]
    exact hF.own h.T (by intro k hk hx; have := rl k hx; simp [Value.ownBlock] at hk; omega)
  · exact hF.own h.P (by intro k hk hx; have := rl k hx; simp [Value.ownBlock] at hk; omega)
  · rw [filter_snoc, if_neg (by simp [k0]), h.EPm]
  · exact hF.own h.I (by intro k hk hx; exact h.dRI k hx hk)
  · rw [filter_snoc, if_neg (by simp [i0]), h.EIm]
  · intro k hk hi
    rcases hloc k hk with hk' | hk'
    · exact h.dRI k hk' hi
    · have := il k hi; omega
  · intro e he
    obtain ⟨b1, b2, b3, b4, b5⟩ := h.box e he
    refine ⟨b1, by omega, ?_, b4, b5.same (hF.block e.2 b2 b3)⟩
    intro hk
    rcases hloc _ hk with hk' | hk'
    · exact b3 hk'
    · omega

/-- A tool's image. -/
theorem St.imgStep {role : ByteArray} {B gT gP n : Nat} {w0 wr w4 : World} {l : List LP} {vR vI vI' : Value} {EP EI : List (LP × Nat)} {p : LP} {tb : Nat}
    (h : St role B gT gP n w0 wr l vR vI EP EI) (hc : cls role p = 3) (ht : isTool role = true)
    (hF : Fr (fun k => vI.ownBlock = some k) wr w4)
    (hI : w4.ownsRow (gP + 1) 51 4 vI' (EI ++ [(p, tb)]).length ((EI ++ [(p, tb)]).flatMap (eCells role)))
    (hloc : ∀ k, vI'.ownBlock = some k → vI.ownBlock = some k ∨ (wr.heap.size ≤ k ∧ k ≠ tb))
    (hb1 : wr.heap.size ≤ tb) (hb2 : tb < w4.heap.size) (hb3 : Box role w4 (p, tb)) :
    St role B gT gP n w0 w4 (l ++ [p]) vR vI' EP (EI ++ [(p, tb)]) := by
  obtain ⟨t0, r0, k0, i0⟩ := img_txt hc ht
  have hgT : gT < wr.heap.size := Nat.lt_trans h.TP h.gz
  have hsz := hF.size
  have rl : ∀ k, vR.ownBlock = some k → gP + 1 ≤ k ∧ k < wr.heap.size := h.R.lt
  have il : ∀ k, vI.ownBlock = some k → gP + 1 ≤ k ∧ k < wr.heap.size := h.I.lt
  have hTP := h.TP
  have hbT := h.bT
  have hgz := h.gz
  refine ⟨hF.toBelow h.bel (by intro k hk; have := il k hk; omega) (by omega), h.bT, h.TP, by omega, ?_, ?_, ?_, ?_, hI, ?_, ?_, ?_, ?_⟩
  · rw [texts_snoc, if_neg (by simp [t0])]
    exact hF.own h.T (by intro k hk hx; have := il k hx; simp [Value.ownBlock] at hk; omega)
  · exact hF.own h.P (by intro k hk hx; have := il k hx; simp [Value.ownBlock] at hk; omega)
  · rw [filter_snoc, if_neg (by simp [k0]), h.EPm]
  · rw [refs_snoc, if_neg (by simp [r0])]
    exact hF.own h.R (by intro k hk hx; exact h.dRI k hk hx)
  · rw [filter_snoc, if_pos i0, List.map_append, h.EIm]; rfl
  · intro he; simp at he
  · intro k hk hi
    rcases hloc k hi with hk' | hk'
    · exact h.dRI k hk hk'
    · have := rl k hk; omega
  · intro e he
    have old : (e ∈ EP ∨ e ∈ EI) → gP < e.2 ∧ e.2 < w4.heap.size ∧ vR.ownBlock ≠ some e.2 ∧ vI'.ownBlock ≠ some e.2 ∧ Box role w4 e := by
      intro he
      obtain ⟨b1, b2, b3, b4, b5⟩ := h.box e he
      refine ⟨b1, by omega, b3, ?_, b5.same (hF.block e.2 b2 b4)⟩
      intro hk
      rcases hloc _ hk with hk' | hk'
      · exact b4 hk'
      · omega
    rcases he with he | he
    · exact old (.inl he)
    · rw [List.mem_append] at he
      rcases he with he | he
      · exact old (.inr he)
      · simp at he
        subst he
        refine ⟨by show gP < tb; omega, hb2, fun e => by have := rl _ e; simp only at this; omega, ?_, hb3⟩
        intro hk
        rcases hloc _ hk with hk' | hk'
        · have := il _ hk'; simp only at this; omega
        · exact hk'.2 rfl
end Go.Proofs.Qxb6613844aFmt
