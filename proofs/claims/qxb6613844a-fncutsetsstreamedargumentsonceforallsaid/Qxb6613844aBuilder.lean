/- strings.Builder as the third member of a streamedFunctionCall (its block: four cells): copyCheck, WriteString, String, at this program. After the shelf's proofs for a builder in a block of its own. -/
import Derived.Test.Qxb6613844aProg
import Derived.WalkKit
import Derived.Lib.FrozenHead
import Derived.Lib.UnsafeStr
import Derived.Lib.Walk
import Derived.Laws.Externs
import Derived.RegionTactic
import Derived.Outline
namespace Go.Proofs.Qxb6613844a
open Go.RowKit

/-- Every row of cells that is no row of bytes stands as it stood. -/
def Keep (w w' : World) : Prop := ∀ (k : Nat) (cs : Array Value) (T : TypeId) (fz : Nat × Nat), w.heap[k]? = some (.cells cs T fz) → T ≠ 5 → w'.heap[k]? = some (.cells cs T fz)

theorem Keep.refl (w : World) : Keep w w := fun _ _ _ _ h _ => h
theorem Keep.trans {a b c : World} (h : Keep a b) (k : Keep b c) : Keep a c := fun i cs T fz hi hT => k i cs T fz (h i cs T fz hi hT) hT

/-- The streamed call in block b: item, index, the builder's two members; the builder holds the bytes bs. -/
def Sfc (B b : Nat) (ip ix p : Value) (bs : List Value) (w : World) : Prop :=
  B ≤ b ∧ ∃ v, w.heap[b]? = some (.cells #[ip, ix, p, v] 36 (0, 0)) ∧ w.ownsRowF B 5 1 v bs.length bs ∧ v.ownBlock ≠ some b

theorem lt_of_heap {w : World} {b : Nat} {o : Obj} (h : w.heap[b]? = some o) : b < w.heap.size := (Array.getElem?_eq_some_iff.1 h).1

theorem Sfc.lt {B b : Nat} {ip ix p : Value} {bs : List Value} {w : World} (h : Sfc B b ip ix p bs w) : b < w.heap.size := by
  obtain ⟨_, v, hb, _⟩ := h
  exact lt_of_heap hb

theorem sizeB : (Try.prog.info? 34).map (·.size) = some 2 := by kernel_rfl
theorem liesB : liesAt Try.prog Try.prog.depth 36 (4 / Try.prog.cellsOf 36) 2 34 1 = true := by kernel_rfl
theorem info5 : (Try.prog.info? 5).map (fun i => (i.zero, i.size, i.bytes)) = some (some (.int .u8 0), 1, 1) := by kernel_rfl
theorem cells5 : Try.prog.cellsOf 5 = 1 := by kernel_rfl

theorem copyCheck_fresh (b : Nat) (w : World) (h0 : w.cell? ⟨b, 2, none⟩ = some (.pointer none)) (hsh : w.shape? b = some (36, 4)) (hfz : w.frozen? ⟨b, 2, none⟩ = false) :
    Calls Try.prog 11 #[.pointer (some ⟨b, 2, none⟩)] w fun e w' => e = .returned (.tuple #[]) ∧ w' = w.setCell ⟨b, 2, none⟩ (.pointer (some ⟨b, 2, none⟩)) := by
  obtain ⟨j, hj, hjs⟩ := Option.map_eq_some_iff.1 sizeB
  go_enter Try.func11, Try.ntmps11
  go_wp2
  rw [Lib.run_to_unsafe w ⟨b, 2, none⟩ Try.underlying31 Try.underlying42 hj (by rw [hjs]; decide) hsh (show 2 < 4 by decide)]
  simp only [Result.andThen]
  rw [Oper.upon_value]
  go_wp2
  rw [run_callFunc_extern Try.func13 (by kernel_rfl) (by kernel_rfl) (by kernel_rfl) (e := Extern.AbiNoEscape.same) (by kernel_rfl)]
  rw [Lib.run_noEscape]
  simp only [Result.andThen]
  rw [Oper.upon_value]
  go_wp2
  rw [Lib.run_from_unsafe w ⟨b, 2, none⟩ Try.underlying42 Try.underlying31 hj hsh liesB]
  simp only [Result.andThen]
  rw [Oper.upon_value]
  go_wp2
  go_end0
  exact ⟨rfl, rfl⟩

theorem write_any (b : Nat) (ip ix : Value) (s : ByteArray) (w : World) (hb : w.heap[b]? = some (.cells #[ip, ix, .pointer none, .slice none 0 0] 36 (0, 0))) (hlen : s.size ≤ 140737488355328) :
    Calls Try.prog 9 #[.pointer (some ⟨b, 2, none⟩), .string s] w fun e w' => e = .returned (.tuple #[.int .i64 s.size, .nilIface]) ∧ Sfc b b ip ix (.pointer (some ⟨b, 2, none⟩)) (Lib.strCells s) w' ∧ Below b w w' := by
  obtain ⟨i0, hi, hz⟩ := Option.map_eq_some_iff.1 info5
  simp only [Prod.mk.injEq] at hz
  obtain ⟨hz0, hz1, hz2⟩ := hz
  have hlt := lt_of_heap hb
  have k2 : w.cell? ⟨b, 2, none⟩ = some (.pointer none) := by rw [Lib.cell_of_heap hb]; rfl
  have f2 : w.frozen? ⟨b, 2, none⟩ = false := Lib.frozen_of_heap hb 2
  have hsh : w.shape? b = some (36, 4) := by simp [World.shape?, hb]
  have hb1 : (w.setCell ⟨b, 2, none⟩ (.pointer (some ⟨b, 2, none⟩))).heap[b]? = some (.cells #[ip, ix, .pointer (some ⟨b, 2, none⟩), .slice none 0 0] 36 (0, 0)) := by
    simp [World.setCell, Array.getElem?_modify, hb]
  have hbel : Below b w (w.setCell ⟨b, 2, none⟩ (.pointer (some ⟨b, 2, none⟩))) := (Below.refl b w).setCell (p := ⟨b, 2, none⟩) (Nat.le_refl _) _
  go_enter Try.func9, Try.ntmps9
  go_wp2_with (go_at_call 11; refine (copyCheck_fresh b _ k2 hsh f2).mono ?_)
  rintro e w1 ⟨rfl, hw1⟩
  rw [← hw1] at hb1 hbel
  clear hw1
  have c1 : w1.cell? ⟨b, 3, none⟩ = some (.slice none 0 0) := by rw [Lib.cell_of_heap hb1]; rfl
  go_wp2_with (at_builtin; refine Lib.wpList_append_own_string _ rfl _ _ 32 9 rfl b 5 i0 Try.underlying32 Try.underlying9 hi hz0 hz1 hz2 (.slice none 0 0) 0 [] rfl (World.ownsRow_nil _ _ _ _) s rfl ?c3 ?c4 ?c5 ?_)
  case c3 => unfold maxLen; omega
  case c4 => omega
  case c5 => have := hbel.size; omega
  intro v' w2 hown' hgrow _
  have hlt1 := lt_of_heap hb1
  have hb2 : w2.heap[b]? = some (.cells #[ip, ix, .pointer (some ⟨b, 2, none⟩), .slice none 0 0] 36 (0, 0)) := by
    rw [hgrow.block b hlt1 (by simp [Value.ownBlock])]
    exact hb1
  have d1 : w2.cell? ⟨b, 3, none⟩ = some (.slice none 0 0) := by rw [Lib.cell_of_heap hb2]; rfl
  have f1 : w2.frozen? ⟨b, 3, none⟩ = false := Lib.frozen_of_heap hb2 3
  have hne := Lib.ownBlock_ne hown' hb2 (by decide)
  obtain ⟨ao, n', cap, hv⟩ : ∃ ao n' cap, v' = .slice ao n' cap := by
    rcases hown'.2 with ⟨hv, _⟩ | ⟨g, cap, cur, hv, _⟩
    · exact ⟨_, _, _, hv⟩
    · exact ⟨_, _, _, hv⟩
  have hb3 : (w2.setCell ⟨b, 3, none⟩ v').heap[b]? = some (.cells #[ip, ix, .pointer (some ⟨b, 2, none⟩), v'] 36 (0, 0)) := by
    simp [World.setCell, Array.getElem?_modify, hb2]
  have hown3 : (w2.setCell ⟨b, 3, none⟩ v').ownsRow b 5 1 v' s.size (Lib.strCells s) := by
    have h := hown'.kept (row := some b) (w' := w2.setCell ⟨b, 3, none⟩ v') ⟨rfl, rfl, rfl, by simp [World.setCell], fun k _ hk => Below.heap_setCell _ _ _ _ (fun e => hk (by simp [e]))⟩ (Or.inr hne)
    simpa using h
  have hbel3 : Below b w (w2.setCell ⟨b, 3, none⟩ v') := (hbel.grown hgrow (by have := hbel.size; omega) (by simp [Value.ownBlock])).setCell (p := ⟨b, 3, none⟩) (Nat.le_refl _) _
  subst hv
  go_wp2
  go_ret2
  exact ⟨rfl, ⟨Nat.le_refl _, _, hb3, by rw [Lib.strCells_length]; exact World.ownsRowF_of hown3, hne⟩, hbel3⟩

theorem keep_freeze {w : World} {g : Nat} {cur : Array Value} {fz : Nat × Nat} (hg : w.heap[g]? = some (.cells cur 5 fz)) (n : Nat) : Keep w (w.freeze ⟨g, 0, none⟩ n) := by
  intro k cs T fz' hk hT
  unfold World.freeze
  split
  · exact hk
  · have hne : g ≠ k := by
      intro e
      subst e
      rw [hg] at hk
      simp only [Option.some.injEq, Obj.cells.injEq] at hk
      exact hT hk.2.1.symm
    simp only [Array.getElem?_modify]
    rw [if_neg hne]
    exact hk

theorem keep_alloc (w : World) (o : Obj) : Keep w (w.alloc o) := by
  intro k cs T fz hk _
  rw [Lib.alloc_old w o k (lt_of_heap hk)]
  exact hk

theorem Sfc.freeze {B b g cap : Nat} {ip ix p : Value} {bs : List Value} {w : World} (hB : B ≤ b) (hb : w.heap[b]? = some (.cells #[ip, ix, p, .slice (some ⟨g, 0, none⟩) bs.length cap] 36 (0, 0))) (hown : w.ownsRowF B 5 1 (.slice (some ⟨g, 0, none⟩) bs.length cap) bs.length bs) (hne : g ≠ b) :
    Sfc B b ip ix p bs (w.freeze ⟨g, 0, none⟩ bs.length) := by
  unfold World.freeze
  split
  · exact ⟨hB, .slice (some ⟨g, 0, none⟩) bs.length cap, hb, hown, by simpa [Value.ownBlock] using hne⟩
  · refine ⟨hB, .slice (some ⟨g, 0, none⟩) bs.length cap, ?_, ⟨hown.1, ?_⟩, by simpa [Value.ownBlock] using hne⟩
    · simp only [Array.getElem?_modify]
      rw [if_neg hne]
      exact hb
    · rcases hown.2 with ⟨hv, _⟩ | ⟨g', cap', cur, fz, hv, hbg, hg, hfz, rest⟩
      · cases hv
      · injection hv with ha _ hcap
        injection ha with ha
        injection ha with hgg _ _
        subst hgg
        subst hcap
        obtain ⟨lo, hi⟩ := fz
        refine .inr ⟨g, _, cur, (if lo == hi then (0, 0 + bs.length) else (min lo 0, max hi (0 + bs.length))), rfl, hbg, ?_, ?_, rest⟩
        · simp [Array.getElem?_modify, hg]
        · simp only at hfz
          split <;> simp <;> omega

theorem Sfc.alloc {B b : Nat} {ip ix p : Value} {bs : List Value} {w : World} (h : Sfc B b ip ix p bs w) (o : Obj) : Sfc B b ip ix p bs (w.alloc o) := by
  have hlt := h.lt
  obtain ⟨hB, v, hb, hown, hne⟩ := h
  exact ⟨hB, v, (Lib.alloc_old w o b hlt).trans hb, hown.kept (World.grownBy_alloc w o none) (by cases hv : v.ownBlock <;> simp), hne⟩

theorem str_some (B b : Nat) (ip ix p : Value) (l : List UInt8) (w : World) (h : Sfc B b ip ix p (Lib.byteCells l) w) (h0 : l ≠ []) :
    Calls Try.prog 12 #[.pointer (some ⟨b, 2, none⟩)] w fun e w' => e = .returned (.string ⟨l.toArray⟩) ∧ Sfc B b ip ix p (Lib.byteCells l) w' ∧ Below B w w' ∧ Keep w w' := by
  obtain ⟨hB, v, hbk, hown, hne⟩ := h
  have hl0 : l.length ≠ 0 := by simpa using h0
  rw [Lib.byteCells_length] at hown
  obtain ⟨g, cap, cur, fz, hv, hbg, hg, hfz, hnc, hcm, hcs, htake⟩ : ∃ g cap cur fz, v = .slice (some ⟨g, 0, none⟩) l.length cap ∧ B ≤ g ∧ w.heap[g]? = some (.cells cur 5 fz) ∧ fz.2 ≤ l.length * 1 ∧ l.length ≤ cap ∧ cap ≤ maxLen ∧ cur.size = cap * 1 ∧ cur.toList.take (l.length * 1) = Lib.byteCells l := by
    rcases hown.2 with ⟨_, hz⟩ | ⟨g, cap, cur, fz, hv, r⟩
    · exact absurd hz hl0
    · exact ⟨g, cap, cur, fz, hv, r⟩
  subst hv
  have c1 : w.drew.cell? ⟨b, 3, none⟩ = some (.slice (some ⟨g, 0, none⟩) l.length cap) := by
    have : w.drew.heap[b]? = some (.cells #[ip, ix, p, .slice (some ⟨g, 0, none⟩) l.length cap] 36 (0, 0)) := hbk
    rw [Lib.cell_of_heap this]; rfl
  have hSD : (Builtin.unsafeSliceData_ #[32] 44 #[.slice (some ⟨g, 0, none⟩) l.length cap]).run Try.prog w.drew = .ok (.pointer (some ⟨g, 0, none⟩)) w.drew :=
    Lib.run_unsafeSliceData_row _ _ _ _ _ _ (by omega)
  have hUS : (Builtin.unsafeString_ #[44, 3] 9 #[.pointer (some ⟨g, 0, none⟩), .int .i64 l.length]).run Try.prog w.drew = .ok (.string ⟨l.toArray⟩) (w.drew.freeze ⟨g, 0, none⟩ l.length) := by
    refine Lib.run_unsafeString_row w.drew 44 3 9 5 Try.underlying44 cells5 g cur.size (by have hg' : w.drew.heap[g]? = some (.cells cur 5 fz) := hg; simp [World.shape?, hg']) l h0 (by omega) (by unfold maxLen at hcm; omega) ?_
    intro j x hx
    have := hown.cells (g := g) rfl j (.int .u8 x.toNat) (by simp [Lib.byteCells, hx])
    exact this
  have hkeep : Sfc B b ip ix p (Lib.byteCells l) (w.drew.freeze ⟨g, 0, none⟩ l.length) := by
    have := Sfc.freeze (w := w.drew) (cap := cap) (bs := Lib.byteCells l) hB (by rw [Lib.byteCells_length]; exact hbk) (by rw [Lib.byteCells_length]; exact hown) (by simpa [Value.ownBlock] using hne)
    rw [Lib.byteCells_length] at this
    exact this
  have hk : Keep w (w.drew.freeze ⟨g, 0, none⟩ l.length) := keep_freeze (w := w.drew) hg _
  have hbel := Lib.below_freeze (Below.drew (Below.refl B w)) (p := ⟨g, 0, none⟩) hbg l.length
  go_enter Try.func12, Try.ntmps12
  go_wp2
  go_region
  all_goals (go_wp2; go_ret; exact ⟨rfl, hkeep, hbel, hk⟩)

theorem ustr_none (W : World) (q : Option Addr) : (Builtin.unsafeString_ #[44, 3] 9 #[.pointer q, .int .i64 0]).run Try.prog W = .ok (.string .empty) W :=
  Lib.run_unsafeString_none W _ _ _ q

theorem str_none (B b : Nat) (ip ix p : Value) (w : World) (h : Sfc B b ip ix p [] w) (hBw : B ≤ w.heap.size) :
    Calls Try.prog 12 #[.pointer (some ⟨b, 2, none⟩)] w fun e w' => e = .returned (.string ⟨#[]⟩) ∧ Sfc B b ip ix p [] w' ∧ Below B w w' ∧ Keep w w' := by
  have hA := h
  obtain ⟨hB, v, hbk, hown, hne⟩ := h
  have hUS := ustr_none
  have hlt := lt_of_heap hbk
  rcases hown.2 with ⟨hv, _⟩ | ⟨g, cap, cur, fz, hv, hbg, hg, _, _, _, _, _⟩
  · subst hv
    have c1 : w.drew.cell? ⟨b, 3, none⟩ = some (.slice none 0 0) := by
      have : w.drew.heap[b]? = some (.cells #[ip, ix, p, .slice none 0 0] 36 (0, 0)) := hbk
      rw [Lib.cell_of_heap this]; rfl
    have hSD : (Builtin.unsafeSliceData_ #[32] 44 #[.slice none 0 0]).run Try.prog w.drew = .ok (.pointer none) w.drew := rfl
    have hA' : Sfc B b ip ix p [] w.drew := hA
    have hk : Keep w w.drew := Keep.refl w
    have hbel := Below.drew (Below.refl B w)
    clear hbk hown hA
    go_enter Try.func12, Try.ntmps12
    go_wp2
    go_region
    all_goals (go_wp2; go_ret; exact ⟨rfl, hA', hbel, hk⟩)
  · by_cases hc0 : cap = 0
    · subst hc0
      subst hv
      have c1 : w.drew.cell? ⟨b, 3, none⟩ = some (.slice (some ⟨g, 0, none⟩) 0 0) := by
        have : w.drew.heap[b]? = some (.cells #[ip, ix, p, .slice (some ⟨g, 0, none⟩) 0 0] 36 (0, 0)) := hbk
        rw [Lib.cell_of_heap this]; rfl
      have hSD : (Builtin.unsafeSliceData_ #[32] 44 #[.slice (some ⟨g, 0, none⟩) 0 0]).run Try.prog w.drew = .ok (.pointer (some ⟨w.drew.heap.size, 0, none⟩)) (w.drew.alloc (.view ⟨g, 0, none⟩ 5)) :=
        Lib.run_unsafeSliceData_zero w.drew _ _ 5 Try.underlying44 ⟨g, 0, none⟩ 0 (5, cur.size) (by have hg' : w.drew.heap[g]? = some (.cells cur 5 fz) := hg; simp [World.shape?, hg'])
      have c2 : (w.drew.alloc (.view ⟨g, 0, none⟩ 5)).cell? ⟨b, 3, none⟩ = some (.slice (some ⟨g, 0, none⟩) 0 0) := by
        have : (w.drew.alloc (.view ⟨g, 0, none⟩ 5)).heap[b]? = _ := (Lib.alloc_old w.drew _ b hlt).trans hbk
        rw [Lib.cell_of_heap this]; rfl
      have c3 : (w.alloc (.view ⟨g, 0, none⟩ 5)).drew.cell? ⟨b, 3, none⟩ = some (.slice (some ⟨g, 0, none⟩) 0 0) := c2
      have c0 : w.cell? ⟨b, 3, none⟩ = some (.slice (some ⟨g, 0, none⟩) 0 0) := c1
      have hA' : Sfc B b ip ix p [] (w.drew.alloc (.view ⟨g, 0, none⟩ 5)) := Sfc.alloc (w := w.drew) hA _
      have hk : Keep w (w.drew.alloc (.view ⟨g, 0, none⟩ 5)) := keep_alloc w.drew _
      have hbel := (Below.drew (Below.refl B w)).alloc (o := .view ⟨g, 0, none⟩ 5) hBw
      clear hbk hown hA
      go_enter Try.func12, Try.ntmps12
      go_wp2
      go_region
      all_goals (go_wp2; go_ret; exact ⟨rfl, hA', hbel, hk⟩)
    · subst hv
      have c1 : w.drew.cell? ⟨b, 3, none⟩ = some (.slice (some ⟨g, 0, none⟩) 0 cap) := by
        have : w.drew.heap[b]? = some (.cells #[ip, ix, p, .slice (some ⟨g, 0, none⟩) 0 cap] 36 (0, 0)) := hbk
        rw [Lib.cell_of_heap this]; rfl
      have hSD : (Builtin.unsafeSliceData_ #[32] 44 #[.slice (some ⟨g, 0, none⟩) 0 cap]).run Try.prog w.drew = .ok (.pointer (some ⟨g, 0, none⟩)) w.drew :=
        Lib.run_unsafeSliceData_row _ _ _ _ _ _ hc0
      have hA' : Sfc B b ip ix p [] w.drew := hA
      have hk : Keep w w.drew := Keep.refl w
      have hbel := Below.drew (Below.refl B w)
      clear hc0 hbk hown hA
      go_enter Try.func12, Try.ntmps12
      go_wp2
      go_region
      all_goals (go_wp2; go_ret; exact ⟨rfl, hA', hbel, hk⟩)

theorem str_any (B b : Nat) (ip ix p : Value) (l : List UInt8) (w : World) (h : Sfc B b ip ix p (Lib.byteCells l) w) (hBw : B ≤ w.heap.size) :
    Calls Try.prog 12 #[.pointer (some ⟨b, 2, none⟩)] w fun e w' => e = .returned (.string ⟨l.toArray⟩) ∧ Sfc B b ip ix p (Lib.byteCells l) w' ∧ Below B w w' ∧ Keep w w' := by
  cases l with
  | nil => exact str_none B b ip ix p w h hBw
  | cons x r => exact str_some B b ip ix p (x :: r) w h (by simp)

end Go.Proofs.Qxb6613844a
