/- The loops that only read the parts: anyBadPart, toolImageCount, keptCount. -/
import Derived.Test.Qxb6613844aFmtBase
import Derived.LoopTactic
namespace Go.Proofs.Qxb6613844aFmt
open Go.RowKit

/-- Part p lies at cells o .. o + 6 of block b. -/
def At (w : World) (b o : Nat) (p : LP) : Prop :=
  w.cell? ⟨b, o, none⟩ = some (.string p.ty) ∧ w.cell? ⟨b, o + 1, none⟩ = some (.string p.tx) ∧ w.cell? ⟨b, o + 2, none⟩ = some (.string p.rf) ∧ w.cell? ⟨b, o + 3, none⟩ = some (.string p.iu) ∧ w.cell? ⟨b, o + 4, none⟩ = some (.pointer p.fi) ∧ w.cell? ⟨b, o + 5, none⟩ = some (.string p.dt) ∧ w.cell? ⟨b, o + 6, none⟩ = some (.pointer p.bp)

theorem At.below {B b o : Nat} {w w' : World} {p : LP} (h : At w b o p) (hB : Below B w w') (hb : b < B) : At w' b o p := by
  obtain ⟨h0, h1, h2, h3, h4, h5, h6⟩ := h
  have c : ∀ j, w'.cell? ⟨b, j, none⟩ = w.cell? ⟨b, j, none⟩ := fun j => hB.cell (p := ⟨b, j, none⟩) hb
  exact ⟨(c _).trans h0, (c _).trans h1, (c _).trans h2, (c _).trans h3, (c _).trans h4, (c _).trans h5, (c _).trans h6⟩

theorem take_snoc {α : Type} {ps : List α} {k : Nat} {p : α} (h : ps[k]? = some p) : ps.take (k + 1) = ps.take k ++ [p] := by
  obtain ⟨hk, rfl⟩ := List.getElem?_eq_some_iff.1 h
  exact List.take_succ_eq_append_getElem hk

def isTool (role : ByteArray) : Bool := role.toList == sTool
def bad (role : ByteArray) (p : LP) : Bool := cls role p == 2
def txt (role : ByteArray) (p : LP) : Bool := cls role p == 0
def ref (role : ByteArray) (p : LP) : Bool := cls role p == 1
def img (role : ByteArray) (p : LP) : Bool := cls role p == 3 && isTool role
def kept (role : ByteArray) (p : LP) : Bool := cls role p == 0 || (cls role p == 3 && !isTool role)

theorem filter_snoc {α : Type} (f : α → Bool) (l : List α) (p : α) : (l ++ [p]).filter f = if f p = true then l.filter f ++ [p] else l.filter f := by
  rw [List.filter_append]
  by_cases h : f p = true <;> simp [h]

theorem ret_bool {a b : Bool} (h : a = b) : Ending.returned (.bool a) = .returned (.bool b) := by rw [h]

/-- Of a slice of parts: its address is a plain one, or it has no element. -/
def Lies (w : World) (a : Addr) (ps : List LP) : Prop :=
  ∀ i p, ps[i]? = some p → ∃ b off, a = ⟨b, off, none⟩ ∧ b < w.heap.size ∧ At w b (off + i * 7) p

theorem bad_any (role : ByteArray) (a : Addr) (cap : Nat) (ps : List LP) (w : World) (hn : ps.length ≤ 1048576) (hP : Lies w a ps) :
    Calls Tryf.prog 9 #[.string role, .slice (some a) ps.length cap] w fun e w' => e = .returned (.bool (ps.any (bad role))) ∧ Below w.heap.size w w' := by
  go_enter Tryf.func9, Tryf.ntmps9
  go_wp2
  go_loopw [5] (fun i wr => ∃ k : Nat, k ≤ ps.length ∧ i = .int .i64 k ∧ (ps.take k).any (bad role) = false ∧ Below w.heap.size w wr) (fun i _ => ps.length - (intOf i).toNat)
  case atStart => exact ⟨0, Nat.zero_le _, rfl, rfl, Below.refl _ _⟩
  case round =>
    obtain ⟨k, hk, rfl, hany, hB⟩ := hrel
    by_cases hlt : k < ps.length
    · obtain ⟨p, hpk⟩ : ∃ p, ps[k]? = some p := ⟨_, List.getElem?_eq_getElem hlt⟩
      obtain ⟨b, off, ha, hb, hat⟩ := hP k p hpk
      rw [ha]
      obtain ⟨c0, c1, c2, c3, c4, c5, c6⟩ := hat.below hB hb
      have hsn : Hid ((ps.take (k + 1)).any (bad role) = bad role p) := by show _ = _; rw [take_snoc hpk, List.any_append, hany]; simp
      have hmem : Hid (p ∈ ps) := List.mem_of_getElem? hpk
      clear hany hpk hat hP ha
      have hz := hB.size
      by_cases hc : cls role p = 2
      · have hc' : (cls role p == 2) = true := by simp [hc]
        clear hc
        go_wp2_with (go_at_call 13; refine (class_any role p _).mono ?_; rintro e w' ⟨rfl, cs, rfl⟩)
        go_ret
        exact ⟨ret_bool (by rw [eq_comm, List.any_eq_true]; exact ⟨p, hmem.out, hc'⟩), hB.alloc hz _⟩
      · have hc' : (cls role p == 2) = false := by simp [hc]
        clear hc
        go_wp2_with (go_at_call 13; refine (class_any role p _).mono ?_; rintro e w' ⟨rfl, cs, rfl⟩)
        go_roundw
        case rel => exact ⟨k + 1, by omega, by go_num, by rw [hsn.out]; exact hc', hB.alloc hz _⟩
        case measure => simp [intOf]; omega
    · go_wp2
      go_ret
      exact ⟨ret_bool (by rw [← hany, List.take_of_length_le (by omega)]), hB⟩

theorem tools_any (role : ByteArray) (a : Addr) (cap : Nat) (ps : List LP) (w : World) (hn : ps.length ≤ 1048576) (hP : Lies w a ps) :
    Calls Tryf.prog 12 #[.string role, .slice (some a) ps.length cap] w fun e w' => e = .returned (.int .i64 (ps.filter (img role)).length) ∧ Below w.heap.size w w' := by
  by_cases ht : (role.toList == sTool) = true
  · have ht' : (role.toList == [116, 111, 111, 108]) = true := ht
    go_enter Tryf.func12, Tryf.ntmps12
    go_wp2
    go_loopw [5, 6] (fun c i wr => ∃ k : Nat, k ≤ ps.length ∧ i = .int .i64 k ∧ c = .int .i64 ((ps.take k).filter (img role)).length ∧ Below w.heap.size w wr) (fun _ i _ => ps.length - (intOf i).toNat)
    case atStart => exact ⟨0, Nat.zero_le _, rfl, rfl, Below.refl _ _⟩
    case round =>
      obtain ⟨k, hk, rfl, rfl, hB⟩ := hrel
      have hl : ((ps.take k).filter (img role)).length ≤ k := Nat.le_trans (List.length_filter_le _ _) (List.length_take_le _ _)
      by_cases hlt : k < ps.length
      · obtain ⟨p, hpk⟩ : ∃ p, ps[k]? = some p := ⟨_, List.getElem?_eq_getElem hlt⟩
        obtain ⟨b, off, ha, hb, hat⟩ := hP k p hpk
        rw [ha]
        obtain ⟨c0, c1, c2, c3, c4, c5, c6⟩ := hat.below hB hb
        have hsn : Hid (((ps.take (k + 1)).filter (img role)).length = ((ps.take k).filter (img role)).length + if img role p = true then 1 else 0) := by
          show _ = _
          rw [take_snoc hpk, filter_snoc]
          split <;> simp
        clear hpk hat hP ha
        have hz := hB.size
        by_cases hc : cls role p = 3
        · have hc' : (cls role p == 3) = true := by simp [hc]
          have hi : Hid (img role p = true) := by show _ = _; simp [img, hc', isTool, ht]
          clear hc
          go_wp2_with (go_at_call 13; refine (class_any role p _).mono ?_; rintro e w' ⟨rfl, cs, rfl⟩)
          go_roundw
          case rel => exact ⟨k + 1, by omega, by go_num, by rw [hsn.out, if_pos hi.out]; go_num, hB.alloc hz _⟩
          case measure => simp [intOf]; omega
        · have hc' : (cls role p == 3) = false := by simp [hc]
          have hi : Hid (¬ img role p = true) := by show ¬ _; simp [img, hc']
          clear hc
          go_wp2_with (go_at_call 13; refine (class_any role p _).mono ?_; rintro e w' ⟨rfl, cs, rfl⟩)
          go_roundw
          case rel => exact ⟨k + 1, by omega, by go_num, by rw [hsn.out, if_neg hi.out]; go_num, hB.alloc hz _⟩
          case measure => simp [intOf]; omega
      · go_wp2
        go_ret
        exact ⟨ret_int (by rw [List.take_of_length_le (by omega)]), hB⟩
  · have ht' : (role.toList == [116, 111, 111, 108]) = false := by simpa [sTool] using ht
    have h0 : ps.filter (img role) = [] := by
      rw [List.filter_eq_nil_iff]
      intro p _
      simp [img, isTool, ht]
    rw [h0]
    go_enter Tryf.func12, Tryf.ntmps12
    go_wp2
    go_ret
    exact ⟨rfl, Below.refl _ _⟩

theorem kept_any (role : ByteArray) (a : Addr) (cap : Nat) (ps : List LP) (w : World) (hn : ps.length ≤ 1048576) (hP : Lies w a ps) :
    Calls Tryf.prog 15 #[.string role, .slice (some a) ps.length cap] w fun e w' => e = .returned (.int .i64 (ps.filter (kept role)).length) ∧ Below w.heap.size w w' := by
  go_enter Tryf.func15, Tryf.ntmps15
  go_wp2
  go_loopw [5, 6] (fun c i wr => ∃ k : Nat, k ≤ ps.length ∧ i = .int .i64 k ∧ c = .int .i64 ((ps.take k).filter (kept role)).length ∧ Below w.heap.size w wr) (fun _ i _ => ps.length - (intOf i).toNat)
  case atStart => exact ⟨0, Nat.zero_le _, rfl, rfl, Below.refl _ _⟩
  case round =>
    obtain ⟨k, hk, rfl, rfl, hB⟩ := hrel
    have hl : ((ps.take k).filter (kept role)).length ≤ k := Nat.le_trans (List.length_filter_le _ _) (List.length_take_le _ _)
    by_cases hlt : k < ps.length
    · obtain ⟨p, hpk⟩ : ∃ p, ps[k]? = some p := ⟨_, List.getElem?_eq_getElem hlt⟩
      obtain ⟨b, off, ha, hb, hat⟩ := hP k p hpk
      rw [ha]
      obtain ⟨c0, c1, c2, c3, c4, c5, c6⟩ := hat.below hB hb
      have hsn : Hid (((ps.take (k + 1)).filter (kept role)).length = ((ps.take k).filter (kept role)).length + if kept role p = true then 1 else 0) := by
        show _ = _
        rw [take_snoc hpk, filter_snoc]
        split <;> simp
      clear hpk hat hP ha
      have hz := hB.size
      by_cases hc0 : cls role p = 0
      · have hc' : (cls role p == 0) = true := by simp [hc0]
        have hi : Hid (kept role p = true) := by show _ = _; simp [kept, hc']
        clear hc0
        go_wp2_with (go_at_call 13; refine (class_any role p _).mono ?_; rintro e w' ⟨rfl, cs, rfl⟩)
        go_roundw
        case rel => exact ⟨k + 1, by omega, by go_num, by rw [hsn.out, if_pos hi.out]; go_num, hB.alloc hz _⟩
        case measure => simp [intOf]; omega
      · have hc' : (cls role p == 0) = false := by simp [hc0]
        clear hc0
        by_cases hc : cls role p = 3
        · have hc3 : (cls role p == 3) = true := by simp [hc]
          clear hc
          by_cases ht : (role.toList == sTool) = true
          · have ht' : (role.toList == [116, 111, 111, 108]) = true := ht
            have hi : Hid (¬ kept role p = true) := by show ¬ _; simp [kept, hc', isTool, ht]
            clear ht
            go_wp2_with (go_at_call 13; refine (class_any role p _).mono ?_; rintro e w' ⟨rfl, cs, rfl⟩)
            go_roundw
            case rel => exact ⟨k + 1, by omega, by go_num, by rw [hsn.out, if_neg hi.out]; go_num, hB.alloc hz _⟩
            case measure => simp [intOf]; omega
          · have ht' : (role.toList == [116, 111, 111, 108]) = false := by simpa [sTool] using ht
            have hi : Hid (kept role p = true) := by show _ = _; simp [kept, hc3, isTool, ht]
            clear ht
            go_wp2_with (go_at_call 13; refine (class_any role p _).mono ?_; rintro e w' ⟨rfl, cs, rfl⟩)
            go_roundw
            case rel => exact ⟨k + 1, by omega, by go_num, by rw [hsn.out, if_pos hi.out]; go_num, hB.alloc hz _⟩
            case measure => simp [intOf]; omega
        · have hc3 : (cls role p == 3) = false := by simp [hc]
          have hi : Hid (¬ kept role p = true) := by show ¬ _; simp [kept, hc', hc3]
          clear hc
          go_wp2_with (go_at_call 13; refine (class_any role p _).mono ?_; rintro e w' ⟨rfl, cs, rfl⟩)
          go_roundw
          case rel => exact ⟨k + 1, by omega, by go_num, by rw [hsn.out, if_neg hi.out]; go_num, hB.alloc hz _⟩
          case measure => simp [intOf]; omega
    · go_wp2
      go_ret
      exact ⟨ret_int (by rw [List.take_of_length_le (by omega)]), hB⟩
end Go.Proofs.Qxb6613844aFmt
