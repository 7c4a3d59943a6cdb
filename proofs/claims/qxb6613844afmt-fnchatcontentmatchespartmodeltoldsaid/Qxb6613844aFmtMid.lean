/- translate.chatContent: what comes back; the state behind the switch. -/
import Derived.Test.Qxb6613844aFmtState
import Derived.Test.Qxb6613844aFmtParts
import Derived.Test.Qxb6613844aFmtInv
import Derived.Test.Qxb6613844aFmtNil
import Derived.Test.Qxb6613844aFmtJoin
import Derived.Deep.CutBlock
import Derived.Deep.DeepCutAuto
namespace Go.Proofs.Qxb6613844aFmt
open Go.RowKit Go.Extern.Stop Go.Stop Go.Extern

theorem info51 : (Tryf.prog.info? 51).map (fun i => (i.zero, i.size, i.bytes)) = some (some (.agg #[.string ⟨#[]⟩, .pointer none, .pointer none, .pointer none]), 4, 40) := by kernel_rfl

/-- What fmt gives for a part's path. -/
def ppath (F : Interp) (path : ByteArray) (k : Nat) : ByteArray := FmtStop.textOf (F "fmt.Sprintf" [[37, 115, 91, 37, 100, 93], shape9, FmtStop.pack path.data.toList, shape3, Go.Extern.Stop.digits 8 ((k : Int) % 18446744073709551616).toNat] 0)

theorem keepB_snoc (role : ByteArray) (l : List LP) (p : LP) : keepB role (l ++ [p]) = (keepB role l || keeps role p) := by
  simp [keepB, List.any_append]
theorem bad_snoc {role : ByteArray} {l : List LP} {p : LP} (h : l.any (bad role) = false) (hp : bad role p = false) : (l ++ [p]).any (bad role) = false := by
  rw [List.any_append, h]; simp [hp]

/-- The refusal that comes back. -/
def RefIs (ss : List ByteArray) (w : World) (r : Option Addr) : Prop :=
  (ss = [] ∧ r = none) ∨ (ss ≠ [] ∧ ∃ q, r = some ⟨q, 0, none⟩ ∧ q < w.heap.size ∧ w.cell? ⟨q, 0, none⟩ = some (.string (joinB ss)))

/-- A slice of chat parts: the cells of E, and E's boxes. -/
def RowIs (role : ByteArray) (E : List (LP × Nat)) (w : World) (a : Option Addr) (c : Nat) : Prop :=
  E.length ≤ c ∧ (∀ e ∈ E, e.2 < w.heap.size ∧ Box role w e) ∧ (E ≠ [] → ∃ g, a = some ⟨g, 0, none⟩ ∧ g < w.heap.size ∧ ∀ (j : Nat) (v : Value), (E.flatMap (eCells role))[j]? = some v → w.cell? ⟨g, j, none⟩ = some v)

/-- The content that comes back. -/
def ConIs (role : ByteArray) (qs : List LP) (EP EI : List (LP × Nat)) (w : World) (c : Option Addr) : Prop :=
  (EP = [] ∧ (refs role qs ≠ [] ∨ EI ≠ []) ∧ c = none) ∨
  ((EP ≠ [] ∨ (refs role qs = [] ∧ EI = [])) ∧ ∃ q, c = some ⟨q, 0, none⟩ ∧ q < w.heap.size ∧
    ((keepB role qs = false ∧ w.cell? ⟨q, 0, none⟩ = some (.string (joinB (texts role qs))) ∧ w.cell? ⟨q, 1, none⟩ = some (.slice none 0 0)) ∨
     (keepB role qs = true ∧ w.cell? ⟨q, 0, none⟩ = some (.string ⟨#[]⟩) ∧ ∃ a cap, w.cell? ⟨q, 1, none⟩ = some (.slice a EP.length cap) ∧ RowIs role EP w a cap)))

def ChatOut (role : ByteArray) (qs : List LP) (w w' : World) (e : Ending) : Prop :=
  Below w.heap.size w w' ∧
  ((qs.any (bad role) = true ∧ ∃ q, e = .returned (.tuple #[.pointer none, .pointer none, .slice none 0 0, .iface 68 (.pointer (some ⟨q, 0, none⟩))])) ∨
   (qs.any (bad role) = false ∧ ∃ (c r : Option Addr) (ia : Option Addr) (ic : Nat) (EP EI : List (LP × Nat)), e = .returned (.tuple #[.pointer c, .pointer r, .slice ia EI.length ic, .nilIface]) ∧
     EP.map Prod.fst = qs.filter (kept role) ∧ EI.map Prod.fst = qs.filter (img role) ∧ (EI = [] → ia = none ∧ ic = 0) ∧ RowIs role EI w' ia ic ∧ RefIs (refs role qs) w' r ∧ ConIs role qs EP EI w' c))

theorem out_bad {role : ByteArray} {qs : List LP} {w w' : World} {p : LP} {q : Nat} {k : Nat} {l : List LP} (hT : qs.take (k + 1) = l ++ [p]) (hc : cls role p = 2) (hB : Below w.heap.size w w') :
    ChatOut role qs w w' (.returned (.tuple #[.pointer none, .pointer none, .slice none 0 0, .iface 68 (.pointer (some ⟨q, 0, none⟩))])) := by
  refine ⟨hB, .inl ⟨?_, q, rfl⟩⟩
  rw [List.any_eq_true]
  have hm : p ∈ qs.take (k + 1) := by rw [hT]; simp
  exact ⟨p, List.mem_of_mem_take hm, by simp [bad, hc]⟩

/-- Behind the switch, where a part is a text or an image: 'mapped' (block z + 2) but for its breakpoint, the texts, the new box. -/
structure Mid (role : ByteArray) (B gT gP n : Nat) (wr : World) (l : List LP) (p : LP) (t : Value) (wc : World) (tb : Nat) : Prop where
  cl : cls role p = 0 ∨ cls role p = 3
  t : t = .slice (some ⟨gT, 0, none⟩) (texts role (l ++ [p])).length n
  fr : Fr (fun k => k = gT) wr wc
  T : wc.ownsRow B 9 1 (.slice (some ⟨gT, 0, none⟩) (texts role (l ++ [p])).length n) (texts role (l ++ [p])).length ((texts role (l ++ [p])).map Value.string)
  m0 : cls role p = 0 → wc.heap[wr.heap.size + 1 + 1]? = some (.cells #[.string ⟨#[116, 101, 120, 116]⟩, .pointer (some ⟨tb, 0, none⟩), .pointer none, .pointer none] 51 (0, 0))
  m3 : cls role p = 3 → wc.heap[wr.heap.size + 1 + 1]? = some (.cells #[.string ⟨#[105, 109, 97, 103, 101, 95, 117, 114, 108]⟩, .pointer none, .pointer (some ⟨tb, 0, none⟩), .pointer none] 51 (0, 0))
  e6 : wc.cell? ⟨wr.heap.size, 6, none⟩ = some (.pointer p.bp)
  z1 : wr.heap.size + 1 + 1 < tb
  z2 : tb < wc.heap.size
  box : Box role wc (p, tb)
  f3 : cls role p = 3 → Fr (fun _ => False) wr wc

/-- The three blocks that every round lays. -/
theorem base3 (wr : World) (o2 : Obj) (cs ms : Array Value) : (((wr.alloc (.cells cs 53)).alloc o2).alloc (.cells ms 51)).heap[wr.heap.size]? = some (.cells cs 53 (0, 0)) ∧ (((wr.alloc (.cells cs 53)).alloc o2).alloc (.cells ms 51)).heap[wr.heap.size + 1 + 1]? = some (.cells ms 51 (0, 0)) := by
  have h1 : ((wr.alloc (.cells cs 53)).alloc o2).heap[wr.heap.size]? = some (.cells cs 53 (0, 0)) := (Lib.alloc_old _ _ _ (by simp)).trans (heap_alloc_new wr _)
  have hs : ((wr.alloc (.cells cs 53)).alloc o2).heap.size = wr.heap.size + 1 + 1 := by simp
  refine ⟨(Lib.alloc_old _ _ _ (by simp; omega)).trans h1, ?_⟩
  have := heap_alloc_new ((wr.alloc (.cells cs 53)).alloc o2) (.cells ms 51)
  rw [hs] at this
  exact this

theorem set4 {w : World} {M : Nat} {x0 x1 x2 x3 : Value} (h : w.heap[M]? = some (.cells #[x0, x1, x2, x3] 51 (0, 0))) (u0 u1 u2 u3 : Value) :
    ((((w.setCell ⟨M, 0, none⟩ u0).setCell ⟨M, 1, none⟩ u1).setCell ⟨M, 2, none⟩ u2).setCell ⟨M, 3, none⟩ u3).heap[M]? = some (.cells #[u0, u1, u2, u3] 51 (0, 0)) := by
  simp [World.setCell, Array.getElem?_modify, h]

theorem mid_text {role : ByteArray} {B gT gP n : Nat} {wr w2 : World} {l : List LP} {p : LP} {cs : Array Value} {V : Array Value} (hc : cls role p = 0) (hF : Fr (fun k => k = gT) wr w2)
    (hT : w2.ownsRow B 9 1 (.slice (some ⟨gT, 0, none⟩) ((texts role l).length + 1) n) ((texts role l).length + 1) ((texts role l).map Value.string ++ [.string p.tx]))
    (hV : w2.heap[wr.heap.size]? = some (.cells V 53 (0, 0))) (hV6 : V[6]? = some (.pointer p.bp))
    (hM : w2.heap[wr.heap.size + 1 + 1]? = some (.cells #[.string ⟨#[]⟩, .pointer none, .pointer none, .pointer none] 51 (0, 0))) (hz : wr.heap.size + 1 + 1 + 1 < w2.heap.size) (hg : gT < wr.heap.size) :
    Mid role B gT gP n wr l p (.slice (some ⟨gT, 0, none⟩) ((texts role l).length + 1) n)
      (((((w2.setCell ⟨wr.heap.size + 1 + 1, 0, none⟩ (.string ⟨#[116, 101, 120, 116]⟩)).setCell ⟨wr.heap.size + 1 + 1, 1, none⟩ (.pointer (some ⟨w2.heap.size, 0, none⟩))).setCell ⟨wr.heap.size + 1 + 1, 2, none⟩ (.pointer none)).setCell ⟨wr.heap.size + 1 + 1, 3, none⟩ (.pointer none)).alloc (.cells #[.string p.tx] 9) |>.alloc (.cells cs 51)) w2.heap.size := by
  have hts : texts role (l ++ [p]) = texts role l ++ [p.tx] := by rw [texts_snoc, if_pos (txt_ref hc).1]
  have hlen : (texts role (l ++ [p])).length = (texts role l).length + 1 := by rw [hts]; simp
  have F4 := ((((Fr.refl (fun k => k = wr.heap.size + 1 + 1) w2).setCell (p := ⟨wr.heap.size + 1 + 1, 0, none⟩) (.inl rfl) (.string ⟨#[116, 101, 120, 116]⟩)).setCell (p := ⟨wr.heap.size + 1 + 1, 1, none⟩) (.inl rfl) (.pointer (some ⟨w2.heap.size, 0, none⟩))).setCell (p := ⟨wr.heap.size + 1 + 1, 2, none⟩) (.inl rfl) (.pointer none)).setCell (p := ⟨wr.heap.size + 1 + 1, 3, none⟩) (.inl rfl) (.pointer none)
  have hs4 : ((((w2.setCell ⟨wr.heap.size + 1 + 1, 0, none⟩ (.string ⟨#[116, 101, 120, 116]⟩)).setCell ⟨wr.heap.size + 1 + 1, 1, none⟩ (.pointer (some ⟨w2.heap.size, 0, none⟩))).setCell ⟨wr.heap.size + 1 + 1, 2, none⟩ (.pointer none)).setCell ⟨wr.heap.size + 1 + 1, 3, none⟩ (.pointer none)).heap.size = w2.heap.size := by simp [World.setCell]
  have hS := set4 hM (.string ⟨#[116, 101, 120, 116]⟩) (.pointer (some ⟨w2.heap.size, 0, none⟩)) (.pointer none) (.pointer none)
  generalize ((((w2.setCell ⟨wr.heap.size + 1 + 1, 0, none⟩ (.string ⟨#[116, 101, 120, 116]⟩)).setCell ⟨wr.heap.size + 1 + 1, 1, none⟩ (.pointer (some ⟨w2.heap.size, 0, none⟩))).setCell ⟨wr.heap.size + 1 + 1, 2, none⟩ (.pointer none)).setCell ⟨wr.heap.size + 1 + 1, 3, none⟩ (.pointer none)) = W4 at F4 hs4 hS
  have FA := (F4.alloc (.cells #[.string p.tx] 9)).alloc (.cells cs 51)
  refine ⟨.inl hc, by rw [hlen], ?_, ?_, fun _ => ?_, fun h => absurd (hc.symm.trans h) (by decide), ?_, by omega, by simp [hs4]; omega, ?_, fun h => absurd (hc.symm.trans h) (by decide)⟩
  · refine ⟨FA.os.trans hF.os, FA.tape.trans hF.tape, FA.output.trans hF.output, Nat.le_trans hF.size FA.size, fun k hk hX => ?_⟩
    exact (FA.block k (by omega) (by omega)).trans (hF.block k hk hX)
  · rw [hlen, hts, List.map_append]
    exact FA.own hT (by intro k hk; simp [Value.ownBlock] at hk; omega)
  · rw [Lib.alloc_old _ _ _ (by simp [hs4]; omega), Lib.alloc_old _ _ _ (by rw [hs4]; omega)]
    exact hS
  · rw [FA.cell (p := ⟨wr.heap.size, 6, none⟩) (by show wr.heap.size < _; omega) (by show ¬ wr.heap.size = _; omega), Lib.cell_of_heap hV]
    exact hV6
  · unfold Box
    rw [if_pos hc]
    show ((W4.alloc (.cells #[.string p.tx] 9)).alloc (.cells cs 51)).cell? ⟨w2.heap.size, 0, none⟩ = _
    have h1 : (W4.alloc (.cells #[.string p.tx] 9)).heap[w2.heap.size]? = some (.cells #[.string p.tx] 9 (0, 0)) := by rw [← hs4]; exact heap_alloc_new W4 _
    rw [Lib.cell_of_heap ((Lib.alloc_old _ _ _ (by simp [hs4])).trans h1)]
    rfl

theorem mid_image {role : ByteArray} {B gT gP n : Nat} {wr : World} {l : List LP} {p : LP} {cs V : Array Value} {o2 : Obj} (hc : cls role p = 3)
    (hT : wr.ownsRow B 9 1 (.slice (some ⟨gT, 0, none⟩) (texts role l).length n) (texts role l).length ((texts role l).map Value.string)) (hV6 : V[6]? = some (.pointer p.bp)) :
    Mid role B gT gP n wr l p (.slice (some ⟨gT, 0, none⟩) (texts role l).length n)
      ((((((wr.alloc (.cells V 53)).alloc o2).alloc (.cells #[.string ⟨#[105, 109, 97, 103, 101, 95, 117, 114, 108]⟩, .pointer none, .pointer (some ⟨wr.heap.size + 1 + 1 + 1 + 1, 0, none⟩), .pointer none] 51)).alloc (.cells cs 51)).alloc (.cells #[.string p.iu, .string p.dt] 65)).drew) (wr.heap.size + 1 + 1 + 1 + 1) := by
  have hts : texts role (l ++ [p]) = texts role l := by rw [texts_snoc, if_neg (by simp [txt, hc])]
  have hb := base3 wr o2 V #[.string ⟨#[105, 109, 97, 103, 101, 95, 117, 114, 108]⟩, .pointer none, .pointer (some ⟨wr.heap.size + 1 + 1 + 1 + 1, 0, none⟩), .pointer none]
  have hsz : (((wr.alloc (.cells V 53)).alloc o2).alloc (.cells #[.string ⟨#[105, 109, 97, 103, 101, 95, 117, 114, 108]⟩, .pointer none, .pointer (some ⟨wr.heap.size + 1 + 1 + 1 + 1, 0, none⟩), .pointer none] 51)).heap.size = wr.heap.size + 1 + 1 + 1 := by simp
  have F0 : Fr (fun _ => False) wr (((wr.alloc (.cells V 53)).alloc o2).alloc (.cells #[.string ⟨#[105, 109, 97, 103, 101, 95, 117, 114, 108]⟩, .pointer none, .pointer (some ⟨wr.heap.size + 1 + 1 + 1 + 1, 0, none⟩), .pointer none] 51)) := (((Fr.refl _ wr).alloc _).alloc _).alloc _
  have hT3 := ((hT.alloc (.cells V 53)).alloc o2).alloc (.cells #[.string ⟨#[105, 109, 97, 103, 101, 95, 117, 114, 108]⟩, .pointer none, .pointer (some ⟨wr.heap.size + 1 + 1 + 1 + 1, 0, none⟩), .pointer none] 51)
  generalize (((wr.alloc (.cells V 53)).alloc o2).alloc (.cells #[.string ⟨#[105, 109, 97, 103, 101, 95, 117, 114, 108]⟩, .pointer none, .pointer (some ⟨wr.heap.size + 1 + 1 + 1 + 1, 0, none⟩), .pointer none] 51)) = W at hb hsz F0 hT3
  obtain ⟨hb1, hb2⟩ := hb
  have k : ∀ j, j < W.heap.size → ((W.alloc (.cells cs 51)).alloc (.cells #[.string p.iu, .string p.dt] 65)).heap[j]? = W.heap[j]? := fun j hj => (Lib.alloc_old _ _ _ (by simp; omega)).trans (Lib.alloc_old _ _ _ hj)
  refine ⟨.inr hc, by rw [hts], ((((F0.alloc _).alloc _).drew).mono (fun _ h => h.elim)), ?_, fun h => absurd (hc.symm.trans h) (by decide), fun _ => ?_, ?_, by omega, ?_, ?_, fun _ => ((F0.alloc _).alloc _).drew⟩
  · rw [hts]
    exact ((hT3.alloc _).alloc _).drew
  · exact (k _ (by omega)).trans hb2
  · have h0 : ((W.alloc (.cells cs 51)).alloc (.cells #[.string p.iu, .string p.dt] 65)).drew.heap[wr.heap.size]? = some (.cells V 53 (0, 0)) := (k _ (by omega)).trans hb1
    rw [Lib.cell_of_heap h0]
    exact hV6
  · show _ < ((W.alloc (.cells cs 51)).alloc (.cells #[.string p.iu, .string p.dt] 65)).heap.size
    simp [hsz]
  · unfold Box
    rw [if_neg (by show ¬ cls role p = 0; rw [hc]; decide)]
    have h0 : ((W.alloc (.cells cs 51)).alloc (.cells #[.string p.iu, .string p.dt] 65)).drew.heap[wr.heap.size + 1 + 1 + 1 + 1]? = some (.cells #[.string p.iu, .string p.dt] 65 (0, 0)) := by
      have := heap_alloc_new (W.alloc (.cells cs 51)) (.cells #[.string p.iu, .string p.dt] 65)
      rw [show (W.alloc (.cells cs 51)).heap.size = wr.heap.size + 1 + 1 + 1 + 1 by simp [hsz]] at this
      exact this
    exact ⟨by rw [Lib.cell_of_heap h0]; rfl, by rw [Lib.cell_of_heap h0]; rfl⟩

/-! ### Behind the switch: the breakpoint is laid into 'mapped', and 'mapped' is appended to the parts or to the images. -/
theorem rest_own {role : ByteArray} {B gT gP n : Nat} {w0 wr wc : World} {l : List LP} {vR vI : Value} {EP EI : List (LP × Nat)} {p : LP} {t : Value} {tb : Nat} (hS : St role B gT gP n w0 wr l vR vI EP EI) (hM : Mid role B gT gP n wr l p t wc tb) (o : Obj) :
    ((wc.setCell ⟨wr.heap.size + 1 + 1, 3, none⟩ (.pointer p.bp)).alloc o).ownsRow B 51 4 (.slice (some ⟨gP, 0, none⟩) EP.length n) EP.length (EP.flatMap (eCells role)) := by
  have h1 := hS.TP
  have h2 := hS.gz
  refine Fr.own (X := fun k => k = gT) (((hM.fr).setCell (p := ⟨wr.heap.size + 1 + 1, 3, none⟩) (.inr (by show _ ≤ _ + 1 + 1; omega)) _).alloc o) hS.P ?_
  intro k hk
  simp [Value.ownBlock] at hk
  omega

theorem rest_ownI {role : ByteArray} {B gT gP n : Nat} {w0 wr wc : World} {l : List LP} {vR vI : Value} {EP EI : List (LP × Nat)} {p : LP} {t : Value} {tb : Nat} (hS : St role B gT gP n w0 wr l vR vI EP EI) (hM : Mid role B gT gP n wr l p t wc tb) (o : Obj) :
    ((wc.setCell ⟨wr.heap.size + 1 + 1, 3, none⟩ (.pointer p.bp)).alloc o).ownsRow (gP + 1) 51 4 vI EI.length (EI.flatMap (eCells role)) := by
  have h1 := hS.TP
  have h2 := hS.gz
  refine Fr.own (X := fun k => k = gT) (((hM.fr).setCell (p := ⟨wr.heap.size + 1 + 1, 3, none⟩) (.inr (by show _ ≤ _ + 1 + 1; omega)) _).alloc o) hS.I ?_
  intro k hk hx
  have := (hS.I.lt k hk).1
  omega

/-- What is in block k (no block of the two rows, none of mapped's) when 'mapped' has been appended. -/
theorem rest_block {wc w4 : World} {M gX k : Nat} {u : Value} {o : Obj} {row : Option Nat} (hg : ((wc.setCell ⟨M, 3, none⟩ u).alloc o).grownBy w4 row) (hk : k < wc.heap.size) (hM : k ≠ M) (hr : some k ≠ row) (_ : gX = gX) : w4.heap[k]? = wc.heap[k]? := by
  rw [hg.block k (by simp [World.setCell]; omega) hr, Lib.alloc_old _ _ _ (by simp [World.setCell]; omega)]
  exact Below.heap_setCell _ _ _ _ hM

theorem rest_kept {role : ByteArray} {B gT gP n : Nat} {w0 wr wc w4 : World} {l : List LP} {vR vI : Value} {EP EI : List (LP × Nat)} {p : LP} {t : Value} {tb : Nat} {o : Obj} (hS : St role B gT gP n w0 wr l vR vI EP EI) (hM : Mid role B gT gP n wr l p t wc tb)
    (hk : kept role p = true) (hr : ref role p = false) (hi : img role p = false)
    (hP : w4.ownsRow B 51 4 (.slice (some ⟨gP, 0, none⟩) (EP.length + 1) n) (EP.length + 1) (EP.flatMap (eCells role) ++ eCells role (p, tb)))
    (hg : ((wc.setCell ⟨wr.heap.size + 1 + 1, 3, none⟩ (.pointer p.bp)).alloc o).grownBy w4 (some gP)) :
    St role B gT gP n w0 w4 (l ++ [p]) vR vI (EP ++ [(p, tb)]) EI := by
  have h1 := hS.TP
  have h2 := hS.gz
  have h3 := hM.z1
  have h4 := hM.z2
  have h5 := hM.fr.size
  have hsz := hg.size
  simp [World.setCell] at hsz
  refine hS.keptStep hk hr hi ?_ ?_ ?_ (by omega) (by omega) ?_
  · exact (((hM.fr.mono (fun k hk => .inl hk)).setCell (p := ⟨wr.heap.size + 1 + 1, 3, none⟩) (.inr (by show _ ≤ _ + 1 + 1; omega)) _).alloc o).grown hg (by intro k hk; left; right; simpa using hk.symm)
  · refine own_frame hM.T ?_
    intro k hk
    simp [Value.ownBlock] at hk
    exact rest_block hg (by omega) (by omega) (by simp; omega) (rfl : gP = gP)
  · have e1 : (EP ++ [(p, tb)]).length = EP.length + 1 := by simp
    have e2 : (EP ++ [(p, tb)]).flatMap (eCells role) = EP.flatMap (eCells role) ++ eCells role (p, tb) := by simp
    rw [e1, e2]
    exact hP
  · exact hM.box.same (rest_block hg h4 (by show tb ≠ _; omega) (by show some tb ≠ _; simp; omega) (rfl : gP = gP))

theorem rest_img {role : ByteArray} {B gT gP n : Nat} {w0 wr wc w4 : World} {l : List LP} {vR vI vI' : Value} {EP EI : List (LP × Nat)} {p : LP} {t : Value} {tb : Nat} {o : Obj} (hS : St role B gT gP n w0 wr l vR vI EP EI) (hM : Mid role B gT gP n wr l p t wc tb)
    (hc : cls role p = 3) (ht : isTool role = true)
    (hI : w4.ownsRow (gP + 1) 51 4 vI' (EI.length + 1) (EI.flatMap (eCells role) ++ eCells role (p, tb)))
    (hg : ((wc.setCell ⟨wr.heap.size + 1 + 1, 3, none⟩ (.pointer p.bp)).alloc o).grownBy w4 vI.ownBlock)
    (hloc : ∀ k, vI'.ownBlock = some k → vI.ownBlock = some k ∨ wc.heap.size ≤ k) :
    St role B gT gP n w0 w4 (l ++ [p]) vR vI' EP (EI ++ [(p, tb)]) := by
  have h1 := hS.TP
  have h2 := hS.gz
  have h3 := hM.z1
  have h4 := hM.z2
  have h5 := hM.fr.size
  have hsz := hg.size
  simp [World.setCell] at hsz
  refine hS.imgStep hc ht ?_ ?_ ?_ (by omega) (by omega) ?_
  · exact ((((hM.f3 hc).mono (fun k hk => hk.elim)).setCell (p := ⟨wr.heap.size + 1 + 1, 3, none⟩) (.inr (by show _ ≤ _ + 1 + 1; omega)) _).alloc o).grown hg (by intro k hk; left; exact hk)
  · have e1 : (EI ++ [(p, tb)]).length = EI.length + 1 := by simp
    have e2 : (EI ++ [(p, tb)]).flatMap (eCells role) = EI.flatMap (eCells role) ++ eCells role (p, tb) := by simp
    rw [e1, e2]
    exact hI
  · intro k hk
    rcases hloc k hk with h | h
    · exact .inl h
    · right; omega
  · refine hM.box.same (rest_block hg h4 (by show tb ≠ _; omega) ?_ (rfl : gP = gP))
    show some tb ≠ _
    intro e
    have := hS.I.lt tb e.symm
    omega

/-! ### Behind the loop. -/
theorem row_is {role : ByteArray} {E : List (LP × Nat)} {B : Nat} {a : Option Addr} {c : Nat} {wr w' : World} (hown : wr.ownsRow B 51 4 (.slice a E.length c) E.length (E.flatMap (eCells role))) (hbox : ∀ e ∈ E, e.2 < wr.heap.size ∧ Box role wr e) (hB : Below wr.heap.size wr w') : RowIs role E w' a c := by
  have hz := hB.size
  refine ⟨?_, fun e he => ⟨by have := (hbox e he).1; omega, (hbox e he).2.same (hB.block e.2 (hbox e he).1)⟩, ?_⟩
  · rcases hown.2 with ⟨hv, h0⟩ | ⟨g, cap, cur, hv, _, _, hnc, _⟩
    · omega
    · injection hv with _ _ h3
      omega
  · intro hE
    rcases hown.2 with ⟨hv, h0⟩ | ⟨g, cap, cur, hv, _⟩
    · exact absurd (List.eq_nil_of_length_eq_zero h0) hE
    · injection hv with h1 _ h3
      subst h1
      subst h3
      have hg := (hown.lt g rfl).2
      refine ⟨g, rfl, by omega, fun j v hj => ?_⟩
      rw [hB.cell (p := ⟨g, j, none⟩) hg]
      have hjl := (List.getElem?_eq_some_iff.1 hj).1
      rw [hown.1] at hjl
      rw [hown.cellAt j hjl]
      exact hj

theorem St.rowP {role : ByteArray} {B gT gP n : Nat} {w0 wr w' : World} {l : List LP} {vR vI : Value} {EP EI : List (LP × Nat)} (h : St role B gT gP n w0 wr l vR vI EP EI) (hB : Below wr.heap.size wr w') : RowIs role EP w' (some ⟨gP, 0, none⟩) n :=
  row_is h.P (fun e he => ⟨(h.box e (.inl he)).2.1, (h.box e (.inl he)).2.2.2.2⟩) hB

theorem St.rowI {role : ByteArray} {B gT gP n : Nat} {w0 wr w' : World} {l : List LP} {vR vI : Value} {EP EI : List (LP × Nat)} {ia : Option Addr} {ic : Nat} (h : St role B gT gP n w0 wr l vR vI EP EI) (hv : vI = .slice ia EI.length ic) (hB : Below wr.heap.size wr w') : RowIs role EI w' ia ic := by
  subst hv
  exact row_is h.I (fun e he => ⟨(h.box e (.inr he)).2.1, (h.box e (.inr he)).2.2.2.2⟩) hB

theorem St.strsT {role : ByteArray} {B gT gP n : Nat} {w0 wr : World} {l : List LP} {vR vI : Value} {EP EI : List (LP × Nat)} (h : St role B gT gP n w0 wr l vR vI EP EI) : Strs wr (some ⟨gT, 0, none⟩) n (texts role l) := by
  obtain ⟨a, c, hv, hS⟩ := strs_of_row h.T
  injection hv with h1 _ h3
  subst h1
  subst h3
  exact hS

theorem St.imgs {role : ByteArray} {B gT gP n : Nat} {w0 wr : World} {l : List LP} {vR vI : Value} {EP EI : List (LP × Nat)} (h : St role B gT gP n w0 wr l vR vI EP EI) : ∃ ia ic, vI = .slice ia EI.length ic ∧ (EI = [] → ia = none ∧ ic = 0) ∧ (EI ≠ [] → ∃ x, ia = some x) := by
  by_cases h0 : EI = []
  · refine ⟨none, 0, ?_, fun _ => ⟨rfl, rfl⟩, fun hn => absurd h0 hn⟩
    rw [h.Inil h0, h0]; rfl
  · rcases h.I.2 with ⟨hv, hl⟩ | ⟨g, cap, cur, hv, _⟩
    · exact absurd (List.eq_nil_of_length_eq_zero hl) h0
    · exact ⟨_, cap, hv, fun hn => absurd hn h0, fun _ => ⟨_, rfl⟩⟩

/-- No part is kept: nothing asks that the parts be kept. -/
theorem keepB_nil {role : ByteArray} {l : List LP} (h : l.filter (kept role) = []) : keepB role l = false := by
  rw [List.filter_eq_nil_iff] at h
  unfold keepB
  rw [List.any_eq_false]
  intro p hp
  have := h p hp
  simp [kept] at this
  simp [keeps, txt]
  refine ⟨fun h0 => absurd h0 this.1, this.2⟩

theorem small_refs {role : ByteArray} {l : List LP} (hn : l.length ≤ 1048576) (hs : ∀ q ∈ l, q.rf.size ≤ 1048576 ∧ q.tx.size ≤ 1048576) : Small (refs role l) ∧ Small (texts role l) := by
  refine ⟨⟨?_, ?_⟩, ⟨?_, ?_⟩⟩
  · unfold refs; rw [List.length_map]; exact Nat.le_trans (List.length_filter_le _ _) hn
  · intro s hm
    obtain ⟨q, hq, rfl⟩ := List.mem_map.1 hm
    exact (hs q (List.mem_filter.1 hq).1).1
  · unfold texts; rw [List.length_map]; exact Nat.le_trans (List.length_filter_le _ _) hn
  · intro s hm
    obtain ⟨q, hq, rfl⟩ := List.mem_map.1 hm
    exact (hs q (List.mem_filter.1 hq).1).2
theorem RefIs.below {ss : List ByteArray} {w w' : World} {r : Option Addr} (h : RefIs ss w r) (hB : Below w.heap.size w w') : RefIs ss w' r := by
  rcases h with h | ⟨h0, q, rfl, hq, hc⟩
  · exact .inl h
  · refine .inr ⟨h0, q, rfl, by have := hB.size; omega, ?_⟩
    rw [hB.cell (p := ⟨q, 0, none⟩) hq]
    exact hc

theorem joined_any (a : Option Addr) (c : Nat) (ss : List ByteArray) (w : World) (hS : Strs w a c ss) (hm : Small ss) :
    Calls Tryf.prog 27 #[.slice a ss.length c, .string ⟨#[10]⟩] w fun e w' => ∃ r, e = .returned (.pointer r) ∧ RefIs ss w' r ∧ Below w.heap.size w w' := by
  by_cases h0 : ss = []
  · subst h0
    refine (joined_none a c w).mono ?_
    rintro e w' ⟨rfl, rfl⟩
    exact ⟨none, rfl, .inl ⟨rfl, rfl⟩, Below.refl _ _⟩
  · refine (joined_some a c ss w hS hm h0).mono ?_
    rintro e w' ⟨q, rfl, _, hq, hc, hB⟩
    exact ⟨_, rfl, .inr ⟨h0, q, rfl, hq, hc⟩, hB⟩
theorem RowIs.below {role : ByteArray} {E : List (LP × Nat)} {w w' : World} {a : Option Addr} {c : Nat} (h : RowIs role E w a c) (hB : Below w.heap.size w w') : RowIs role E w' a c := by
  obtain ⟨h1, h2, h3⟩ := h
  have hz := hB.size
  refine ⟨h1, fun e he => ⟨by have := (h2 e he).1; omega, (h2 e he).2.same (hB.block e.2 (h2 e he).1)⟩, fun hE => ?_⟩
  obtain ⟨g, rfl, hg, hc⟩ := h3 hE
  refine ⟨g, rfl, by omega, fun j v hj => ?_⟩
  rw [hB.cell (p := ⟨g, j, none⟩) hg]
  exact hc j v hj
end Go.Proofs.Qxb6613844aFmt
