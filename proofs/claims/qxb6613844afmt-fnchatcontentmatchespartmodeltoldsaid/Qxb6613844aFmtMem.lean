/- Frames, and where an appended slice lies. After the kit's own law on append (its cases, with the place said). -/
import Derived.OwnWalk
import Derived.Laws.OwnMore
import Derived.Laws.AppendOwn
import Derived.Below
namespace Go.Proofs.Qxb6613844aFmt
open Go.RowKit

/-- Every block of w, but those of X, stands in w' as it stood. -/
structure Fr (X : Nat → Prop) (w w' : World) : Prop where
  os : w'.os = w.os
  tape : w'.tape = w.tape
  output : w'.output = w.output
  size : w.heap.size ≤ w'.heap.size
  block : ∀ k, k < w.heap.size → ¬ X k → w'.heap[k]? = w.heap[k]?

theorem Fr.refl (X : Nat → Prop) (w : World) : Fr X w w := ⟨rfl, rfl, rfl, Nat.le_refl _, fun _ _ _ => rfl⟩
theorem Fr.drew {X : Nat → Prop} {w w' : World} (h : Fr X w w') : Fr X w w'.drew := ⟨h.os, h.tape, h.output, h.size, h.block⟩
theorem Fr.alloc {X : Nat → Prop} {w w' : World} (h : Fr X w w') (o : Obj) : Fr X w (w'.alloc o) :=
  ⟨h.os, h.tape, h.output, by simp; have := h.size; omega, fun k hk hX => (Below.heap_alloc w' o k (by have := h.size; omega)).trans (h.block k hk hX)⟩
theorem Fr.setCell {X : Nat → Prop} {w w' : World} (h : Fr X w w') {p : Addr} (hp : X p.block ∨ w.heap.size ≤ p.block) (u : Value) : Fr X w (w'.setCell p u) := by
  refine ⟨h.os, h.tape, h.output, by simp [World.setCell]; exact h.size, fun k hk hX => ?_⟩
  refine (Below.heap_setCell w' p u k ?_).trans (h.block k hk hX)
  intro e
  rcases hp with hp | hp
  · exact hX (e ▸ hp)
  · omega
theorem Fr.grown {X : Nat → Prop} {w w' w'' : World} {row : Option Nat} (h : Fr X w w') (hg : w'.grownBy w'' row) (hr : ∀ k, row = some k → X k ∨ w.heap.size ≤ k) : Fr X w w'' :=
  ⟨hg.os.trans h.os, hg.tape.trans h.tape, hg.output.trans h.output, Nat.le_trans h.size hg.size, fun k hk hX => (hg.block k (by have := h.size; omega) (fun e => by
    rcases hr k e.symm with h' | h'
    · exact hX h'
    · omega)).trans (h.block k hk hX)⟩
theorem Fr.below {X : Nat → Prop} {w w' w'' : World} (h : Fr X w w') (hB : Below w'.heap.size w' w'') : Fr X w w'' :=
  ⟨hB.os.trans h.os, hB.tape.trans h.tape, hB.output.trans h.output, Nat.le_trans h.size hB.size, fun k hk hX => (hB.block k (by have := h.size; omega)).trans (h.block k hk hX)⟩
theorem Fr.mono {X Y : Nat → Prop} {w w' : World} (h : Fr X w w') (hXY : ∀ k, X k → Y k) : Fr Y w w' :=
  ⟨h.os, h.tape, h.output, h.size, fun k hk hY => h.block k hk (fun hX => hY (hXY k hX))⟩
theorem Fr.toBelow {X : Nat → Prop} {B : Nat} {w0 w w' : World} (h0 : Below B w0 w) (h : Fr X w w') (hX : ∀ k, X k → B ≤ k) (hB : B ≤ w.heap.size) : Below B w0 w' :=
  ⟨h.os.trans h0.os, h.tape.trans h0.tape, h.output.trans h0.output, Nat.le_trans h0.size h.size, fun k hk => (h.block k (by omega) (fun hx => by have := hX k hx; omega)).trans (h0.block k hk)⟩
theorem Fr.cell {X : Nat → Prop} {w w' : World} (h : Fr X w w') {p : Addr} (hp : p.block < w.heap.size) (hX : ¬ X p.block) : w'.cell? p = w.cell? p :=
  World.cell?_of_block (h.block p.block hp hX)

theorem own_frame {w w' : World} {B : Nat} {e : TypeId} {size : Nat} {v : Value} {n : Nat} {xs : List Value} (h : w.ownsRow B e size v n xs) (hk : ∀ k, v.ownBlock = some k → w'.heap[k]? = w.heap[k]?) : w'.ownsRow B e size v n xs := by
  refine ⟨h.1, ?_⟩
  rcases h.2 with hn | ⟨g, cap, cur, hv, hb, hg, rest⟩
  · exact .inl hn
  · exact .inr ⟨g, cap, cur, hv, hb, (hk g (by rw [hv]; rfl)).trans hg, rest⟩

theorem Fr.own {X : Nat → Prop} {w w' : World} {B : Nat} {e : TypeId} {size : Nat} {v : Value} {n : Nat} {xs : List Value} (h : Fr X w w') (ho : w.ownsRow B e size v n xs) (hX : ∀ k, v.ownBlock = some k → ¬ X k) : w'.ownsRow B e size v n xs :=
  own_frame ho fun k hk => h.block k (ho.lt k hk).2 (hX k hk)

theorem one_new {w : World} {x : Value} {t : TypeId} {m : Nat} (hm : m = w.heap.size) : ∀ j u, [x][j]? = some u → (w.alloc (.cells #[x] t)).cell? ((⟨m, 0, none⟩ : Addr).add j) = some u := by
  subst hm
  intro j u hj
  match j, hj with
  | 0, hj =>
    simp at hj
    subst hj
    simp [Addr.add]

theorem four_new {w : World} {x0 x1 x2 x3 : Value} {t : TypeId} {m : Nat} (hm : m = w.heap.size) : ∀ j u, [x0, x1, x2, x3][j]? = some u → (w.alloc (.cells #[x0, x1, x2, x3] t)).cell? ((⟨m, 0, none⟩ : Addr).add j) = some u := by
  subst hm
  intro j u hj
  match j, hj with
  | 0, hj => simp at hj; subst hj; simp [Addr.add]
  | 1, hj => simp at hj; subst hj; simp [Addr.add]
  | 2, hj => simp at hj; subst hj; simp [Addr.add]
  | 3, hj => simp at hj; subst hj; simp [Addr.add]

section
variable {P : Program} (w : World)

/-- The kit's law on append onto a row of the call's own, with the place of the new slice: the old row, or a new block. -/
theorem run_append_loc (base : Nat) (t ty e : TypeId) (i : TypeInfo) (z : Value) (size bytes : Nat) (ht : P.underlying t = some (.slice e)) (hi : P.info? e = some i) (hz : i.zero = some z)
    (hsize : i.size = size) (hby : i.bytes = bytes) (hzs : z.cells.size = size) (hsz : 0 < size)
    (v : Value) (n : Nat) (xs : List Value) (hown : w.ownsRow base e size v n xs)
    (a : Addr) (m c : Nat) (news : List Value) (hl : news.length = m * size) (hnews : ∀ j u, news[j]? = some u → w.cell? (a.add j) = some u) (h1 : ∀ u ∈ news, u.oneCell' = true)
    (h63 : n + m ≤ maxLen) (hbytes : (n + m) * bytes ≤ 140737488355328) (hbase : base ≤ w.heap.size) :
    ∃ v' w', (Builtin.append_ #[t, t] ty #[v, .slice (some a) m c]).run P w = .ok v' w' ∧ w'.ownsRow base e size v' (n + m) (xs ++ news) ∧ w.grownBy w' v.ownBlock ∧
      (v' = .slice none 0 0 ↔ v = .slice none 0 0 ∧ m = 0) ∧ (∀ k, v'.ownBlock = some k → v.ownBlock = some k ∨ w.heap.size ≤ k) := by
  obtain ⟨v', w', hr, h2, h3, h4⟩ := run_append_own (P := P) w base t ty e i z size bytes ht hi hz hsize hby hzs hsz v n xs hown a m c news hl hnews h1 h63 hbytes hbase
  refine ⟨v', w', hr, h2, h3, h4, ?_⟩
  intro k hk
  rcases hown.2 with ⟨hv, h0⟩ | ⟨g, cap, cur, hv, hbg, hg, hnc, hcm, hcs, htake⟩
  · right
    subst hv
    obtain ⟨v2, w2, hr2, h22, _⟩ := run_append_own (P := P) w w.heap.size t ty e i z size bytes ht hi hz hsize hby hzs hsz (.slice none 0 0) n xs ⟨hown.1, .inl ⟨rfl, h0⟩⟩ a m c news hl hnews h1 h63 hbytes (Nat.le_refl _)
    rw [hr] at hr2
    injection hr2 with e1 e2
    subst e1
    exact (h22.lt k hk).1
  · subst hv
    by_cases hroom : n + m ≤ cap
    · left
      obtain ⟨w2, hr2, _⟩ := run_append_fits (P := P) w base t ty e i size ht hi hsize g n cap xs hown a m c news hl hnews h1 hroom
      rw [hr] at hr2
      injection hr2 with e1 e2
      subst e1
      exact hk
    · right
      subst hsize
      subst hby
      have hsmall : n + m ≤ 9223372036854775807 := by simp only [maxLen] at h63; omega
      have holds : ∀ j u, xs[j]? = some u → w.cell? ((⟨g, 0, none⟩ : Addr).add j) = some u := hown.cells (g := g) rfl
      have hr2 := run_append_grow (P := P) w t ty e i z ht hi hz ⟨g, 0, none⟩ n cap xs hown.1 holds a m c news hl hnews (by omega) (by omega) (growslice_fits (by omega) hbytes)
      rw [hr] at hr2
      injection hr2 with e1 e2
      subst e1
      simp [Value.ownBlock] at hk
      omega

theorem wpList_append_loc {ops : Array Oper} {rest : List Oper} {o : Oper} {a : Act} {Q : Exit → Act → World → Prop} (hgd : o.guard = none) (s x : Operand) (t : TypeId)
    (ho : o.op = .call { callee := .builtin .append, args := #[s, x], argTypes := #[t, t] })
    (base : Nat) (e : TypeId) (i : TypeInfo) (z : Value) (size bytes : Nat) (ht : P.underlying t = some (.slice e)) (hi : P.info? e = some i) (hz : i.zero = some z)
    (hsize : i.size = size) (hby : i.bytes = bytes) (hzs : z.cells.size = size) (hsz : 0 < size)
    (v : Value) (n : Nat) (xs : List Value) (hs : a.eval s = v) (hown : w.ownsRow base e size v n xs)
    (ad : Addr) (m c : Nat) (news : List Value) (hx : a.eval x = .slice (some ad) m c) (hl : news.length = m * size) (hnews : ∀ j u, news[j]? = some u → w.cell? (ad.add j) = some u) (h1 : ∀ u ∈ news, u.oneCell' = true)
    (h63 : n + m ≤ maxLen) (hbytes : (n + m) * bytes ≤ 140737488355328) (hbase : base ≤ w.heap.size)
    (h : ∀ v' w', w'.ownsRow base e size v' (n + m) (xs ++ news) → w.grownBy w' v.ownBlock → (v' = .slice none 0 0 ↔ v = .slice none 0 0 ∧ m = 0) → (∀ k, v'.ownBlock = some k → v.ownBlock = some k ∨ w.heap.size ≤ k) → wpList P ops Q rest (a.put o.dst v') w') : wpList P ops Q (o :: rest) a w := by
  refine wpList_plain hgd fun K hK => ?_
  obtain ⟨v', w', hr, h2, h3, h4, h5⟩ := run_append_loc (P := P) w base t o.type e i z size bytes ht hi hz hsize hby hzs hsz v n xs hown ad m c news hl hnews h1 h63 hbytes hbase
  unfold Oper.wp execOp
  simp only [ho, resolve, invoke, builtin, Sem.run_bind, Sem.run_pure, Result.andThen_ok, List.map_toArray, List.map_cons, List.map_nil, hs, hx, hr]
  exact hK _ _ (h v' w' h2 h3 h4 h5)
end
end Go.Proofs.Qxb6613844aFmt
