/- The law's argument, read as data: the parts in memory. -/
import Derived.Test.Qxb6613844aFmtPtrs
import Derived.Test.Qxb6613844aFmtRows
import Derived.ProofKit
import Derived.Deep.Slices
import Derived.Deep.Fields
namespace Go.Proofs.Qxb6613844aFmt
open Go.ChangeShapes Go.WideShapes Go.ChangeAt Go.RowKit Go.Deep

theorem Tryf.cells46 : Tryf.prog.cellsOf 46 = 7 := by kernel_rfl
theorem Tryf.cells59 : Tryf.prog.cellsOf 59 = 1 := by kernel_rfl
theorem Tryf.cells44 : Tryf.prog.cellsOf 44 = 1 := by kernel_rfl
theorem Tryf.cells28 : Tryf.prog.cellsOf 28 = 1 := by kernel_rfl
theorem Tryf.cells9 : Tryf.prog.cellsOf 9 = 1 := by kernel_rfl

section
variable {H : Type} {enc : TypeId × Value → H} {W : World} {spare : Nat → Bool} {held : Bool}

/-- One cell that is read as data: what it holds. -/
theorem one_cell {cs : List Value} {o : Nat} {v : Value} (h : (cs.drop o).take 1 = [v]) : cs[o]? = some v := by
  have h1 := congrArg (fun l : List Value => l[0]?) h
  simpa [List.getElem?_take, List.getElem?_drop] using h1

theorem string_cell {n : Nat} {cs : List Value} {o : Nat} {y : Option (DataW H × List MemPlace)} (h : DataW.trod enc Tryf.prog W 0 spare held n 9 ((cs.drop o).take (Tryf.prog.cellsOf 9)) = y) (hy : y ≠ none) : ∃ s, cs[o]? = some (.string s) := by
  cases y with
  | none => exact absurd rfl hy
  | some x =>
    obtain ⟨s, hs, _⟩ := DataW.trod_string Tryf.underlying9 h
    rw [Tryf.cells9] at hs
    exact ⟨s, one_cell hs⟩

/-- A pointer to a string. -/
theorem strptr {n : Nat} {v : List Value} {x : DataW H × List MemPlace} (h : DataW.trod enc Tryf.prog W 0 spare held n 28 v = some x) :
    ∃ q, v = [.pointer q] ∧ ∀ a, q = some a → ∃ b o s, a = ⟨b, o, none⟩ ∧ b < W.heap.size ∧ W.cell? ⟨b, o, none⟩ = some (.string s) := by
  rcases DataW.trod_pointer Tryf.underlying28 h with ⟨rfl, _⟩ | ⟨a, cs', y, m, _, rfl, _, hcells, hy⟩
  · exact ⟨none, rfl, fun a h => by cases h⟩
  · refine ⟨some a, rfl, fun a' ha => ?_⟩
    injection ha with ha
    subst ha
    rw [Tryf.cells9] at hcells
    obtain ⟨_, _, hcell⟩ := World.cells?_some hcells
    obtain ⟨s, rfl, _⟩ := DataW.trod_string Tryf.underlying9 hy
    have h0 := hcell 0 (by omega)
    obtain ⟨b, o, spot⟩ := a
    have h1 : W.cell? ⟨b, o, spot⟩ = some (.string s) := by simpa [Addr.add] using h0
    have hspot : spot = none := by simpa using World.cell?_spot h1
    subst hspot
    exact ⟨b, o, s, rfl, World.block_lt_of_cell? _ _ h1, h1⟩

/-- A pointer to a breakpoint. -/
theorem bpptr {n : Nat} {v : List Value} {x : DataW H × List MemPlace} (h : DataW.trod enc Tryf.prog W 0 spare held n 44 v = some x) :
    ∃ q, v = [.pointer q] ∧ ∀ a, q = some a → ∃ b o m, a = ⟨b, o, none⟩ ∧ b < W.heap.size ∧ W.cell? ⟨b, o, none⟩ = some (.pointer m) ∧ ∀ a', m = some a' → ∃ b' o' s, a' = ⟨b', o', none⟩ ∧ b' < W.heap.size ∧ W.cell? ⟨b', o', none⟩ = some (.string s) := by
  rcases DataW.trod_pointer Tryf.underlying44 h with ⟨rfl, _⟩ | ⟨a, cs', y, m, _, rfl, _, hcells, hy⟩
  · exact ⟨none, rfl, fun a h => by cases h⟩
  · refine ⟨some a, rfl, fun a' ha => ?_⟩
    injection ha with ha
    subst ha
    rw [Tryf.cells59] at hcells
    obtain ⟨_, _, hcell⟩ := World.cells?_some hcells
    obtain ⟨xs, n', _, _, _, hxl, hf⟩ := DataW.trod_struct Tryf.underlying59 hy
    have h5 := hf 0 _ rfl
    have hx0 : xs[0]? ≠ none := by
      have : 0 < xs.length := by rw [hxl]; decide
      rw [List.getElem?_eq_getElem this]; simp
    cases hx : xs[0]? with
    | none => exact absurd hx hx0
    | some x0 =>
      rw [hx] at h5
      obtain ⟨q, hq, hqs⟩ := strptr h5
      have hq' : cs'[0]? = some (.pointer q) := one_cell (by rw [← hq]; show _ = List.take (Tryf.prog.cellsOf 28) _; rw [Tryf.cells28]; rfl)
      have h0 := hcell 0 (by omega)
      rw [hq'] at h0
      obtain ⟨b, o, spot⟩ := a
      have h1 : W.cell? ⟨b, o, spot⟩ = some (.pointer q) := by simpa [Addr.add] using h0
      have hspot : spot = none := by simpa using World.cell?_spot h1
      subst hspot
      exact ⟨b, o, q, rfl, World.block_lt_of_cell? _ _ h1, h1, hqs⟩

/-- One part. -/
theorem part_at {n : Nat} {cs : List Value} {x : DataW H × List MemPlace} (h : DataW.trod enc Tryf.prog W 0 spare held n 46 cs = some x) :
    ∃ p : LP, cs[0]? = some (.string p.ty) ∧ cs[1]? = some (.string p.tx) ∧ cs[2]? = some (.string p.rf) ∧ cs[3]? = some (.string p.iu) ∧ cs[4]? = some (.pointer p.fi) ∧ cs[5]? = some (.string p.dt) ∧ cs[6]? = some (.pointer p.bp) ∧ Ptrs W p := by
  obtain ⟨xs, m, _, _, _, hxl, hf⟩ := DataW.trod_struct Tryf.underlying46 h
  have hn : ∀ i, i < 7 → xs[i]? ≠ none := by
    intro i hi
    have : i < xs.length := by rw [hxl]; exact hi
    rw [List.getElem?_eq_getElem this]; simp
  obtain ⟨s0, h0⟩ := string_cell (hf 0 _ rfl) (hn 0 (by omega))
  obtain ⟨s1, h1⟩ := string_cell (hf 1 _ rfl) (hn 1 (by omega))
  obtain ⟨s2, h2⟩ := string_cell (hf 2 _ rfl) (hn 2 (by omega))
  obtain ⟨s3, h3⟩ := string_cell (hf 3 _ rfl) (hn 3 (by omega))
  obtain ⟨s5, h5⟩ := string_cell (hf 5 _ rfl) (hn 5 (by omega))
  have g4 := hf 4 _ rfl
  have g6 := hf 6 _ rfl
  cases x4 : xs[4]? with
  | none => exact absurd x4 (hn 4 (by omega))
  | some y4 =>
  cases x6 : xs[6]? with
  | none => exact absurd x6 (hn 6 (by omega))
  | some y6 =>
  rw [x4] at g4
  rw [x6] at g6
  obtain ⟨q4, e4, k4⟩ := strptr g4
  obtain ⟨q6, e6, k6⟩ := bpptr g6
  have h4 : cs[4]? = some (.pointer q4) := one_cell (by rw [← e4]; show _ = List.take (Tryf.prog.cellsOf 28) _; rw [Tryf.cells28]; rfl)
  have h6 : cs[6]? = some (.pointer q6) := one_cell (by rw [← e6]; show _ = List.take (Tryf.prog.cellsOf 44) _; rw [Tryf.cells44]; rfl)
  exact ⟨⟨s0, s1, s2, s3, q4, s5, q6⟩, h0, h1, h2, h3, h4, h5, h6, k4, k6⟩

/-- The slice of parts. -/
theorem open_parts {r : Reach} {b0 : Nat} {v : Value} {d : DataW H} {pl : List MemPlace} (hval : Value.okWide Tryf.prog W r b0 22 v) (h : DataW.Trod enc Tryf.prog W 0 spare held 22 v d pl) :
    v = .slice none 0 0 ∨ ∃ (a : Addr) (cap : Nat) (ps : List LP), v = .slice (some a) ps.length cap ∧ Lies W a ps ∧ ∀ p ∈ ps, Ptrs W p := by
  obtain ⟨sa, len, cap, rfl⟩ := okWide_slice Tryf.underlying22 hval
  obtain ⟨n0, h⟩ := h
  rcases open_slice Tryf.underlying22 h with ⟨hv, _⟩ | ⟨a, len', cap', m, n, D, Pl, hv, _, hl, _, hm, _, hx⟩
  · left
    simp [Value.cells] at hv
    obtain ⟨rfl, rfl, rfl⟩ := hv
    rfl
  · right
    simp [Value.cells] at hv
    obtain ⟨h1, h2, h3⟩ := hv
    subst h1
    subst h2
    subst h3
    have hlm : len ≤ m := by rw [hm]; split <;> omega
    obtain ⟨b, off, spot⟩ := a
    have hsp : 0 < len → spot = none := by
      intro h0
      obtain ⟨cs', h1, h2⟩ := hx 0 (by omega)
      rw [Tryf.cells46] at h1
      obtain ⟨_, hlen, hcell⟩ := World.cells?_some h1
      obtain ⟨p, c0, _⟩ := part_at h2
      have := hcell 0 (by omega)
      rw [c0] at this
      have k : W.cell? ⟨b, off, spot⟩ = some (.string p.ty) := by simpa [Addr.add] using this
      simpa using World.cell?_spot k
    have hp : ∀ i, i < len → ∃ p : LP, (∃ b' off', (⟨b, off, spot⟩ : Addr) = ⟨b', off', none⟩ ∧ b' < W.heap.size ∧ At W b' (off' + i * 7) p) ∧ Ptrs W p := by
      intro i hi
      obtain rfl := hsp (by omega)
      obtain ⟨cs', h1, h2⟩ := hx i (by omega)
      rw [Tryf.cells46] at h1
      obtain ⟨_, hlen, hcell⟩ := World.cells?_some h1
      obtain ⟨p, c0, c1, c2, c3, c4, c5, c6, hpt⟩ := part_at h2
      refine ⟨p, ?_, hpt⟩
      have k : ∀ (j : Nat) (v : Value), j < 7 → cs'[j]? = some v → W.cell? ⟨b, off + i * 7 + j, none⟩ = some v := by
        intro j v hj hv
        have := hcell j hj
        rw [hv, add_plain, add_plain] at this
        exact this
      exact ⟨b, off, rfl, World.block_lt_of_cell? _ _ (k 0 _ (by omega) c0), k 0 _ (by omega) c0, k 1 _ (by omega) c1, k 2 _ (by omega) c2, k 3 _ (by omega) c3, k 4 _ (by omega) c4, k 5 _ (by omega) c5, k 6 _ (by omega) c6⟩
    have ⟨f, hf⟩ : ∃ f : Nat → LP, ∀ i, i < len → (∃ b' off', (⟨b, off, spot⟩ : Addr) = ⟨b', off', none⟩ ∧ b' < W.heap.size ∧ At W b' (off' + i * 7) (f i)) ∧ Ptrs W (f i) := by
      refine ⟨fun i => if h : i < len then Classical.choose (hp i h) else ⟨⟨#[]⟩, ⟨#[]⟩, ⟨#[]⟩, ⟨#[]⟩, none, ⟨#[]⟩, none⟩, fun i hi => ?_⟩
      simp only [dif_pos hi]
      exact Classical.choose_spec (hp i hi)
    refine ⟨⟨b, off, spot⟩, cap, (List.range len).map f, by simp, ?_, ?_⟩
    · intro i p hi
      rw [List.getElem?_map] at hi
      cases hr : (List.range len)[i]? with
      | none => rw [hr] at hi; cases hi
      | some j =>
        rw [hr] at hi
        injection hi with hi
        subst hi
        have hj := List.getElem?_eq_some_iff.1 hr
        obtain ⟨hj1, hj2⟩ := hj
        rw [List.getElem_range] at hj2
        subst hj2
        exact (hf i (by simpa using hj1)).1
    · intro p hp
      obtain ⟨i, hi, rfl⟩ := List.mem_map.1 hp
      exact (hf i (List.mem_range.1 hi)).2
end
end Go.Proofs.Qxb6613844aFmt
