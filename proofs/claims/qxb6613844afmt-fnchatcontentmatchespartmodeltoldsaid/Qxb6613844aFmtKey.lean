/- The law's parts and the parts that were handed over agree but for the breakpoints' addresses; the place of an element in a filtered list. -/
import Derived.Test.Qxb6613844aFmtTor
import Derived.Test.Qxb6613844aFmtState
namespace Go.Proofs.Qxb6613844aFmt
open Go.RowKit

theorem cls_key (role : ByteArray) (p : LP) : cls role p.key = cls role p := rfl

/-- What a part is and bears, its breakpoint's address aside. -/
structure Same (role : ByteArray) (p q : LP) : Prop where
  c : cls role p = cls role q
  ty : p.ty = q.ty
  tx : p.tx = q.tx
  rf : p.rf = q.rf
  iu : p.iu = q.iu
  fi : p.fi = q.fi
  dt : p.dt = q.dt
  bp : p.bp.isSome = q.bp.isSome

theorem same_of_key (role : ByteArray) {p q : LP} (h : q.key = p.key) : Same role p q := by
  have hc : cls role p = cls role q := by rw [← cls_key role p, ← cls_key role q, h]
  have hb : p.bp.isSome = q.bp.isSome := by
    have := congrArg (fun x => x.bp.isSome) h
    simp [LP.key] at this
    exact this.symm
  have f : ∀ {β : Type} (g : LP → β), g p.key = g q.key := fun g => by rw [h]
  exact ⟨hc, f LP.ty, f LP.tx, f LP.rf, f LP.iu, f LP.fi, f LP.dt, hb⟩

theorem same_at (role : ByteArray) {ps qs : List LP} (h : qs.map LP.key = ps.map LP.key) {i : Nat} {p : LP} (hp : ps[i]? = some p) : ∃ q, qs[i]? = some q ∧ Same role p q := by
  have h1 : (qs.map LP.key)[i]? = some p.key := by rw [h, List.getElem?_map, hp]; rfl
  rw [List.getElem?_map] at h1
  cases hq : qs[i]? with
  | none => rw [hq] at h1; cases h1
  | some q =>
    rw [hq] at h1
    injection h1 with h1
    exact ⟨q, rfl, same_of_key role h1⟩

/-- A filter that does not look at the address. -/
theorem filter_key {β : Type} (f : LP → Bool) (g : LP → β) (hf : ∀ p, f p.key = f p) (hg : ∀ p, g p.key = g p) {ps qs : List LP} (h : qs.map LP.key = ps.map LP.key) : (qs.filter f).map g = (ps.filter f).map g := by
  have e : ∀ l : List LP, (l.filter f).map g = ((l.map LP.key).filter f).map g := by
    intro l
    rw [List.filter_map, List.map_map]
    have h1 : (f ∘ LP.key) = f := funext hf
    have h2 : (g ∘ LP.key) = g := funext hg
    rw [h1, h2]
  rw [e qs, e ps, h]
theorem any_key (f : LP → Bool) (hf : ∀ p, f p.key = f p) {ps qs : List LP} (h : qs.map LP.key = ps.map LP.key) : qs.any f = ps.any f := by
  have e : ∀ l : List LP, l.any f = (l.map LP.key).any f := by
    intro l
    rw [List.any_map]
    have h1 : (f ∘ LP.key) = f := funext hf
    rw [h1]
  rw [e qs, e ps, h]

theorem keyed (role : ByteArray) {ps qs : List LP} (h : qs.map LP.key = ps.map LP.key) :
    qs.length = ps.length ∧ qs.any (bad role) = ps.any (bad role) ∧ refs role qs = refs role ps ∧ texts role qs = texts role ps ∧ keepB role qs = keepB role ps ∧
    (qs.filter (img role)).length = (ps.filter (img role)).length ∧ (qs.filter (kept role)).length = (ps.filter (kept role)).length := by
  refine ⟨by have := congrArg List.length h; simpa using this, any_key _ (fun p => by simp [bad, cls_key]) h, filter_key _ _ (fun p => by simp [ref, cls_key]) (fun p => rfl) h, filter_key _ _ (fun p => by simp [txt, cls_key]) (fun p => rfl) h, any_key _ (fun p => ?_) h, ?_, ?_⟩
  · have h1 : p.key.bp.isSome = p.bp.isSome := by simp [LP.key]
    simp only [keeps, txt, cls_key, h1]
  · have := filter_key (img role) (fun _ => ()) (fun p => by simp [img, cls_key]) (fun _ => rfl) h
    have := congrArg List.length this
    simpa using this
  · have := filter_key (kept role) (fun _ => ()) (fun p => by simp [kept, cls_key]) (fun _ => rfl) h
    have := congrArg List.length this
    simpa using this

theorem filter_at {α : Type} (f : α → Bool) : ∀ (l : List α) (i : Nat) (p : α), l[i]? = some p → f p = true → (l.filter f)[((l.take i).filter f).length]? = some p
  | [], i, p, h, _ => by simp at h
  | x :: l, 0, p, h, hf => by
    simp at h
    subst h
    simp [hf]
  | x :: l, i + 1, p, h, hf => by
    have h' : l[i]? = some p := by simpa using h
    have ih := filter_at f l i p h' hf
    by_cases hx : f x = true
    · simp [hx, ih]
    · simp [hx, ih]

/-- The entry of q in a row that was made of the filtered parts. -/
theorem entry_at {f : LP → Bool} {E : List (LP × Nat)} {qs : List LP} (hE : E.map Prod.fst = qs.filter f) {i : Nat} {q : LP} (hq : qs[i]? = some q) (hf : f q = true) : ∃ tb, E[((qs.take i).filter f).length]? = some (q, tb) := by
  have h := filter_at f qs i q hq hf
  rw [← hE, List.getElem?_map] at h
  cases he : E[((qs.take i).filter f).length]? with
  | none => rw [he] at h; cases h
  | some e =>
    rw [he] at h
    injection h with h
    obtain ⟨e1, e2⟩ := e
    subst h
    exact ⟨e2, rfl⟩

theorem eCells_length (role : ByteArray) (e : LP × Nat) : (eCells role e).length = 4 := by
  unfold eCells; split <;> rfl
/-- Element j's cells of the row. -/
theorem cells_at {role : ByteArray} : ∀ (E : List (LP × Nat)) (j : Nat) (e : LP × Nat), E[j]? = some e → ∀ (m : Nat) (v : Value), (eCells role e)[m]? = some v → (E.flatMap (eCells role))[j * 4 + m]? = some v
  | [], j, e, h, _, _, _ => by simp at h
  | x :: E, 0, e, h, m, v, hv => by
    simp at h
    subst h
    have hm := (List.getElem?_eq_some_iff.1 hv).1
    rw [List.flatMap_cons, Nat.zero_mul, Nat.zero_add, List.getElem?_append_left hm]
    exact hv
  | x :: E, j + 1, e, h, m, v, hv => by
    have h' : E[j]? = some e := by simpa using h
    have ih := cells_at E j e h' m v hv
    have hx := eCells_length role x
    rw [List.flatMap_cons, List.getElem?_append_right (by rw [hx]; omega), hx, show (j + 1) * 4 + m - 4 = j * 4 + m by omega]
    exact ih
end Go.Proofs.Qxb6613844aFmt
