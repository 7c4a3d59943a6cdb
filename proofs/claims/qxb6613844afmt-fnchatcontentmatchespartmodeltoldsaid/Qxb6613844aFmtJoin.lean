/- Strings joined by newlines: translate.joined (by strings.Join's contract) and zzlaws' joinLines (its own loops): the same text. -/
import Derived.Test.Qxb6613844aFmtStrs
import Derived.Test.Qxb6613844aFmtShelf
import Derived.Laws.IdiomStrings
namespace Go.Proofs.Qxb6613844aFmt
open Go.RowKit

def joinL (ss : List ByteArray) : List UInt8 := Lib.join (ss.map (·.data.toList)) [10]
def joinB (ss : List ByteArray) : ByteArray := ⟨(joinL ss).toArray⟩

/-- Each string is small. -/
def Small (ss : List ByteArray) : Prop := ss.length ≤ 1048576 ∧ ∀ s ∈ ss, s.size ≤ 1048576

theorem joinL_snoc (ss : List ByteArray) (s : ByteArray) (h : ss ≠ []) : joinL (ss ++ [s]) = joinL ss ++ [10] ++ s.data.toList := by
  unfold joinL
  cases ss with
  | nil => exact absurd rfl h
  | cons x r =>
    simp only [List.cons_append, List.map_cons, List.map_append, List.map_nil, Lib.join_cons]
    have : Lib.joinTail [10] (r.map (·.data.toList) ++ [s.data.toList]) = Lib.joinTail [10] (r.map (·.data.toList)) ++ ([10] ++ s.data.toList) := by
      simp [Lib.joinTail]
    rw [this]
    simp

theorem joinL_one (s : ByteArray) : joinL [s] = s.data.toList := by
  simp [joinL, Lib.join_one]

theorem joinL_length (ss : List ByteArray) (h : ∀ s ∈ ss, s.size ≤ 1048576) : (joinL ss).length ≤ ss.length * 1048577 := by
  induction ss with
  | nil => simp [joinL, Lib.join]
  | cons x r ih =>
    have hx : x.data.toList.length ≤ 1048576 := h x (by simp)
    have hr : ∀ s ∈ r, s.size ≤ 1048576 := fun s hs => h s (by simp [hs])
    have key : ∀ r : List ByteArray, (∀ s ∈ r, s.size ≤ 1048576) → (Lib.joinTail [10] (r.map (·.data.toList))).length ≤ r.length * 1048577 := by
      intro r
      induction r with
      | nil => intro _; simp [Lib.joinTail]
      | cons y r ih =>
        intro hh
        have hy : y.data.toList.length ≤ 1048576 := hh y (by simp)
        have := ih (fun s hs => hh s (by simp [hs]))
        simp only [Lib.joinTail, List.map_cons, List.flatten_cons, List.length_append, List.length_cons, List.length_nil] at this ⊢
        omega
    have := key r hr
    simp only [joinL, List.map_cons, Lib.join_cons, List.length_append, List.length_cons]
    omega

theorem join_any (a : Option Addr) (c : Nat) (ss : List ByteArray) (w : World) (hS : Strs w a c ss) (hm : Small ss) :
    Calls Tryf.prog 28 #[.slice a ss.length c, .string ⟨#[10]⟩] w fun e w' => e = .returned (.string (joinB ss)) ∧ Below w.heap.size w w' := by
  have hlen := joinL_length ss hm.2
  rcases hS.2 with rfl | ⟨g, rfl, hg, hc⟩
  · refine (Tryf.strings_Join_none a c ⟨#[10]⟩ w).mono ?_
    rintro e w' ⟨rfl, rfl⟩
    exact ⟨rfl, Below.refl _ _⟩
  · have h1 := hm.1
    exact Tryf.strings_Join g 0 c ss ⟨#[10]⟩ w hc hg (by omega) hS.1 (by show (joinL ss).length ≤ _; omega)

theorem joined_none (a : Option Addr) (c : Nat) (w : World) :
    Calls Tryf.prog 27 #[.slice a 0 c, .string ⟨#[10]⟩] w fun e w' => e = .returned (.pointer none) ∧ w = w' := by
  go_enter Tryf.func27, Tryf.ntmps27
  go_wp2
  go_ret
  exact ⟨rfl, rfl⟩

theorem joined_some (a : Option Addr) (c : Nat) (ss : List ByteArray) (w : World) (hS : Strs w a c ss) (hm : Small ss) (h0 : ss ≠ []) :
    Calls Tryf.prog 27 #[.slice a ss.length c, .string ⟨#[10]⟩] w fun e w' => ∃ q, e = .returned (.pointer (some ⟨q, 0, none⟩)) ∧ w.heap.size ≤ q ∧ q < w'.heap.size ∧ w'.cell? ⟨q, 0, none⟩ = some (.string (joinB ss)) ∧ Below w.heap.size w w' := by
  have hl : 0 < ss.length := List.length_pos_iff.2 h0
  have h1 := hm.1
  clear h0
  go_enter Tryf.func27, Tryf.ntmps27
  go_wp2_with (go_at_call 28; refine (join_any a c ss _ hS hm).mono ?_; rintro e w1 ⟨rfl, hB1⟩)
  go_ret
  have hz := hB1.size
  exact ⟨_, rfl, hz, by simp, by simp, hB1.alloc hz _⟩

theorem info5 : (Tryf.prog.info? 5).map (fun i => (i.zero, i.size, i.bytes)) = some (some (.int .u8 0), 1, 1) := by kernel_rfl

theorem form_of_row {w : World} {B n : Nat} {e : TypeId} {size : Nat} {v : Value} {xs : List Value} (h : w.ownsRow B e size v n xs) : ∃ a c, v = .slice a n c := by
  rcases h.2 with ⟨hv, h0⟩ | ⟨g, cap, cur, hv, _⟩
  · exact ⟨none, 0, by rw [hv, h0]⟩
  · exact ⟨_, cap, hv⟩

theorem conv_own {w : World} {B : Nat} {v : Value} {L : List UInt8} (h : w.ownsRow B 5 1 v L.length (Lib.byteCells L)) : (convert 63 9 v).run Tryf.prog w = .ok (.string ⟨L.toArray⟩) w := by
  rcases h.2 with ⟨hv, h0⟩ | ⟨g, cap, cur, hv, _⟩
  · have : L = [] := List.eq_nil_of_length_eq_zero h0
    subst this
    rw [hv]
    exact run_convert_bytes_nil w 63 5 Tryf.underlying63 Tryf.underlying5 0 0 9 Tryf.underlying9
  · rw [hv] at h ⊢
    refine run_convert_bytes_back w 63 9 5 ⟨g, 0, none⟩ cap L Tryf.underlying63 Tryf.underlying5 Tryf.underlying9 ?_
    intro j hj
    exact h.cells (g := g) rfl j _ (by simp [Lib.byteCells, List.getElem?_eq_getElem hj])

set_option maxHeartbeats 1000000 in
theorem lines_some (g c : Nat) (ss : List ByteArray) (w : World) (hg : g < w.heap.size) (hcell : ∀ (j : Nat) (x : ByteArray), ss[j]? = some x → w.cell? ⟨g, 0 + j, none⟩ = some (.string x)) (hm : Small ss) (h0 : 0 < ss.length) :
    Calls Tryf.prog 11 #[.slice (some ⟨g, 0, none⟩) ss.length c] w fun e w' => e = .returned (.string (joinB ss)) ∧ Below w.heap.size w w' := by
  obtain ⟨i0, hi, hz0, hz1, hz2⟩ := info_parts info5
  obtain ⟨hm1, hm2⟩ := hm
  go_enter Tryf.func11, Tryf.ntmps11
  go_wp2
  go_loop [3, 4] (fun t i => ∃ (k t' : Nat), k ≤ ss.length ∧ i = .int .i64 k ∧ t = .int .i64 t' ∧ t' ≤ ss.length + k * 1048576) (fun _ i => ss.length - (intOf i).toNat)
  case atStart => exact ⟨0, ss.length - 1, Nat.zero_le _, rfl, by congr 1; omega, by omega⟩
  case round =>
    obtain ⟨k, t', hk, rfl, rfl, ht⟩ := hrel
    by_cases hlt : k < ss.length
    · obtain ⟨s, hs⟩ : ∃ s, ss[k]? = some s := ⟨_, List.getElem?_eq_getElem hlt⟩
      have c0 := hcell k s hs
      rw [Nat.zero_add] at c0
      have hsz := hm2 s (List.mem_of_getElem? hs)
      clear hs
      go_wp2
      go_round
      case rel => exact ⟨k + 1, t' + s.size, by omega, by go_num, by go_num, by omega⟩
      case measure => simp [intOf]; omega
    · have hb : i0.bytes * t' ≤ 281474976710656 := by rw [hz2]; have : k = ss.length := by omega
                                                      subst this; omega
      have htm : t' ≤ maxLen := by unfold maxLen; have : k = ss.length := by omega
                                   subst this; omega
      go_wp2_with (at_make; refine wpList_make_own _ rfl _ _ 63 rfl w.heap.size 5 i0 (.int .u8 0) 1 Tryf.underlying63 hi hz0 hz1 .i64 .i64 _ t' rfl rfl rfl hb htm (Nat.le_refl _) ?_)
      intro w1 hown1 hgrow1
      go_wp2
      have HO1 : Hid (w1.ownsRow w.heap.size 5 1 (.slice (some ⟨w.heap.size, 0, none⟩) 0 t') 0 []) := hown1
      have HB1 : Hid (Below w.heap.size w w1) := (Below.refl _ w).grown hgrow1 (Nat.le_refl _) (by simp)
      clear hown1 hgrow1 hb htm
      go_loopw [5, 6] (fun v i wr => ∃ (k : Nat) (L : List UInt8), k ≤ ss.length ∧ i = .int .i64 k ∧ Hid (L = joinL (ss.take k)) ∧ L.length ≤ k * 1048577 ∧ wr.ownsRow w.heap.size 5 1 v L.length (Lib.byteCells L) ∧ Below w.heap.size w wr) (fun _ i _ => ss.length - (intOf i).toNat)
      case atStart => exact ⟨0, [], Nat.zero_le _, rfl, rfl, Nat.le_refl _, HO1.out, HB1.out⟩
      case round =>
        obtain ⟨m, L, hmk, rfl, HL, hLl, hown, hB⟩ := hrel
        obtain ⟨va, vc, hv⟩ := form_of_row hown
        have hz := hB.size
        by_cases hlt2 : m < ss.length
        · obtain ⟨s, hs⟩ : ∃ s, ss[m]? = some s := ⟨_, List.getElem?_eq_getElem hlt2⟩
          have c0 : wr.cell? ⟨g, m, none⟩ = some (.string s) := by
            have := hcell m s hs
            rw [Nat.zero_add] at this
            exact (hB.cell (p := ⟨g, m, none⟩) hg).trans this
          have hsz := hm2 s (List.mem_of_getElem? hs)
          have hgz : g < wr.heap.size := by omega
          have HT : Hid (ss.take (m + 1) = ss.take m ++ [s]) := take_snoc hs
          rw [hv]
          rw [hv] at hown
          have HO : Hid (wr.ownsRow w.heap.size 5 1 (.slice va L.length vc) L.length (Lib.byteCells L)) := hown
          clear hs hown hv HO1 HB1 hcell hm2
          by_cases hm0 : m = 0
          · subst hm0
            have HL0 : Hid (L = []) := by show _ = _; rw [HL.out]; rfl
            go_wp2_with (at_builtin; refine Lib.wpList_append_own_string _ rfl _ _ 63 9 rfl w.heap.size 5 i0 Tryf.underlying63 Tryf.underlying9 hi hz0 hz1 hz2 _ _ _ rfl HO.out s rfl ?d3 ?d4 ?d5 ?_)
            case d3 => unfold maxLen; omega
            case d4 => omega
            case d5 => omega
            intro v' w2 hown' hgrow _
            have hB2 : Below w.heap.size w w2 := hB.grown hgrow hz (fun k' hk' => (HO.out.lt k' hk').1)
            have HO2 : Hid (w2.ownsRow w.heap.size 5 1 v' (L ++ s.data.toList).length (Lib.byteCells (L ++ s.data.toList))) := by
              show World.ownsRow _ _ _ _ _ _ _
              rw [Lib.byteCells_append, List.length_append]
              exact hown'
            clear hown' hgrow
            obtain ⟨va2, vc2, hv2⟩ := form_of_row HO2.out
            rw [hv2]
            rw [hv2] at HO2
            clear hv2
            go_wp2
            go_roundw
            case rel =>
              have hsl : s.data.toList.length = s.size := rfl
              refine ⟨1, L ++ s.data.toList, by omega, by go_num, ?_, by simp only [List.length_append]; omega, HO2.out, hB2⟩
              show _ = _
              rw [HT.out, HL0.out]
              simp [joinL_one]
            case measure => simp [intOf]; omega
          · have hm1' : (0 : Int) < (m : Int) := by omega
            go_wp2_with (at_builtin; refine wpList_append_own _ rfl _ _ 63 rfl w.heap.size 5 i0 (.int .u8 0) 1 1 Tryf.underlying63 hi hz0 hz1 hz2 rfl (by decide) _ _ _ rfl (HO.out.alloc _) ⟨wr.heap.size, 0, none⟩ 1 1 [.int .u8 10] rfl rfl ?c1 ?c2 ?c3 ?c4 ?c5 ?_)
            case c1 =>
              intro j u hj
              match j, hj with
              | 0, hj => simp at hj; subst hj; simp [Addr.add]
            case c2 => intro u hu; simp at hu; subst hu; rfl
            case c3 => unfold maxLen; omega
            case c4 => omega
            case c5 => simp; omega
            intro v1 w2 hown1 hgrow1 _
            have hB2 : Below w.heap.size w w2 := (hB.alloc hz _).grown hgrow1 (by simp; omega) (fun k' hk' => (HO.out.lt k' hk').1)
            have c02 : w2.cell? ⟨g, m, none⟩ = some (.string s) := ((hB2.cell (p := ⟨g, m, none⟩) hg)).trans (((hB.cell (p := ⟨g, m, none⟩) hg)).symm.trans c0)
            have HO2 : Hid (w2.ownsRow w.heap.size 5 1 v1 (L ++ [10]).length (Lib.byteCells (L ++ [10]))) := by
              show World.ownsRow _ _ _ _ _ _ _
              rw [Lib.byteCells_append, List.length_append]
              exact hown1
            clear hown1 hgrow1 c0
            obtain ⟨va2, vc2, hv2⟩ := form_of_row HO2.out
            rw [hv2]
            rw [hv2] at HO2
            clear hv2
            have hz2' := hB2.size
            generalize hL2 : L ++ [10] = L2 at HO2
            have hL2l : L2.length ≤ L.length + 1 := by rw [← hL2]; simp
            have hL2m : L2.length ≤ m * 1048577 + 1 := by omega
            have HL2 : Hid (L ++ [10] = L2) := hL2
            clear hL2
            go_wp2_with (at_builtin; refine Lib.wpList_append_own_string _ rfl _ _ 63 9 rfl w.heap.size 5 i0 Tryf.underlying63 Tryf.underlying9 hi hz0 hz1 hz2 _ _ _ rfl HO2.out s rfl ?d3 ?d4 ?d5 ?_)
            case d3 => unfold maxLen; omega
            case d4 => omega
            case d5 => omega
            intro v' w3 hown' hgrow _
            have hB3 : Below w.heap.size w w3 := hB2.grown hgrow hz2' (fun k' hk' => (HO2.out.lt k' hk').1)
            have HO3 : Hid (w3.ownsRow w.heap.size 5 1 v' (L2 ++ s.data.toList).length (Lib.byteCells (L2 ++ s.data.toList))) := by
              show World.ownsRow _ _ _ _ _ _ _
              rw [Lib.byteCells_append, List.length_append]
              exact hown'
            clear hown' hgrow
            obtain ⟨va3, vc3, hv3⟩ := form_of_row HO3.out
            rw [hv3]
            rw [hv3] at HO3
            clear hv3
            go_wp2
            go_roundw
            case rel =>
              have hsl : s.data.toList.length = s.size := rfl
              refine ⟨m + 1, L2 ++ s.data.toList, by omega, by go_num, ?_, by simp only [List.length_append]; omega, HO3.out, hB3⟩
              show _ = _
              rw [HT.out, joinL_snoc _ _ (by intro h; have := congrArg List.length h; simp only [List.length_take, List.length_nil] at this; omega), ← HL2.out, HL.out]
            case measure => simp [intOf]; omega
        · have hconv := conv_own hown
          have hL : Hid (L = joinL ss) := by show _ = _; rw [HL.out, List.take_of_length_le (by omega)]
          rw [hv] at hconv ⊢
          go_wp2
          go_ret
          exact ⟨by rw [hL.out]; rfl, hB⟩

theorem lines_any (a : Option Addr) (c : Nat) (ss : List ByteArray) (w : World) (hS : Strs w a c ss) (hm : Small ss) :
    Calls Tryf.prog 11 #[.slice a ss.length c] w fun e w' => e = .returned (.string (joinB ss)) ∧ Below w.heap.size w w' := by
  by_cases h0 : ss = []
  · subst h0
    go_enter Tryf.func11, Tryf.ntmps11
    go_wp2
    go_ret
    exact ⟨rfl, Below.refl _ _⟩
  · rcases hS.2 with rfl | ⟨g, rfl, hg, hc⟩
    · exact absurd rfl h0
    · exact lines_some g c ss w hg hc hm (List.length_pos_iff.2 h0)
end Go.Proofs.Qxb6613844aFmt
