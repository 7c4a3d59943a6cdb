/- translate.chatContent. -/
import Derived.Test.Qxb6613844aFmtMid
namespace Go.Proofs.Qxb6613844aFmt
open Go.RowKit Go.Extern.Stop Go.Stop Go.Extern
attribute [local go_sem] call22 guardAny act9_115 op9_115 act3_100 op3_100 str9 str3 fmtPath fmtPathr eqlNil25 neqNil29

set_option maxHeartbeats 4000000 in
set_option maxRecDepth 100000 in
theorem chat_low (F : Interp) (role text path : ByteArray) (a : Addr) (cap : Nat) (qs : List LP) (w : World) (hF : F.answers w.tape) (hn : qs.length ≤ 1048576) (hP : Lies w a qs)
    (hsm : ∀ q ∈ qs, q.rf.size ≤ 1048576 ∧ q.tx.size ≤ 1048576)
    (hpath : ∀ k : Nat, k ≤ qs.length → (ppath F path k).size ≤ 2000000) :
    Calls Tryf.prog 21 #[.string role, .agg #[.string text, .slice (some a) qs.length cap], .string path] w fun e w' => ChatOut role qs w w' e := by
  obtain ⟨i9, hi9, hz90, hz91, hz92⟩ := info_parts info9
  obtain ⟨i51, hi51, hz510, hz511, hz512⟩ := info_parts info51
  have hb9 : i9.bytes * qs.length ≤ 281474976710656 := by rw [hz92]; omega
  have hb51 : i51.bytes * qs.length ≤ 281474976710656 := by rw [hz512]; omega
  have hmx : qs.length ≤ maxLen := by unfold maxLen; omega
  go_enter Tryf.func21, Tryf.ntmps21
  go_wp2_with (at_make; refine wpList_make_own _ rfl _ _ 39 rfl w.heap.size 9 i9 (.string ⟨#[]⟩) 1 Tryf.underlying39 hi9 hz90 hz91 .i64 .i64 _ qs.length rfl rfl rfl hb9 hmx (by simp) ?_)
  intro w1 hown1 hgrow1
  have k10 : w1.cell? ⟨w.heap.size, 0, none⟩ = some (.string text) := hgrow1.cell (by simp) (by simp)
  have k11 : w1.cell? ⟨w.heap.size, 1, none⟩ = some (.slice (some a) qs.length cap) := hgrow1.cell (by simp) (by simp)
  have z1 : w.heap.size + 1 < w1.heap.size := by have := (hown1.lt _ rfl).2; simpa using this
  have HO1 : Hid (w1.ownsRow w.heap.size 9 1 (.slice (some ⟨w.heap.size + 1, 0, none⟩) 0 qs.length) 0 []) := by show World.ownsRow _ _ _ _ _ _ _; simpa using hown1
  have HB1 : Hid (Below w.heap.size w w1) := ((Below.refl _ w).alloc (Nat.le_refl _) _).grown hgrow1 (by simp) (by simp)
  clear hown1 hgrow1
  go_wp2_with (at_make; refine wpList_make_own _ rfl _ _ 29 rfl w.heap.size 51 i51 (.agg #[.string ⟨#[]⟩, .pointer none, .pointer none, .pointer none]) 4 Tryf.underlying29 hi51 hz510 hz511 .i64 .i64 _ qs.length rfl rfl rfl hb51 hmx (by omega) ?_)
  intro w2 hown2 hgrow2
  have k20 : w2.cell? ⟨w.heap.size, 0, none⟩ = some (.string text) := hgrow2.cell k10 (by simp)
  have k21 : w2.cell? ⟨w.heap.size, 1, none⟩ = some (.slice (some a) qs.length cap) := hgrow2.cell k11 (by simp)
  have z2 : w1.heap.size < w2.heap.size := (hown2.lt _ rfl).2
  have HO2 : Hid (w2.ownsRow w.heap.size 51 4 (.slice (some ⟨w1.heap.size, 0, none⟩) 0 qs.length) 0 []) := hown2
  have HT2 : Hid (w2.ownsRow w.heap.size 9 1 (.slice (some ⟨w.heap.size + 1, 0, none⟩) 0 qs.length) 0 []) := (HO1.out).kept hgrow2 (.inr (by simp [Value.ownBlock]))
  have HB2 : Hid (Below w.heap.size w w2) := (HB1.out).grown hgrow2 (by omega) (by simp)
  clear hown2 hgrow2 k10 k11 HO1 HB1
  go_wp2
  generalize hgP : w1.heap.size = gP at z1 z2 HO2
  clear hgP
  go_loopw [10, 11, 12, 13, 14, 38] (fun t p r im kp i wr => ∃ (k : Nat) (l : List LP) (EP EI : List (LP × Nat)) (vR vI : Value), vR = r ∧ vI = im ∧ k ≤ qs.length ∧ i = .int .i64 k ∧ Hid (l = qs.take k) ∧ t = .slice (some ⟨w.heap.size + 1, 0, none⟩) (texts role l).length qs.length ∧ p = .slice (some ⟨gP, 0, none⟩) EP.length qs.length ∧ kp = .bool (keepB role l) ∧ l.any (bad role) = false ∧ St role w.heap.size (w.heap.size + 1) gP qs.length w wr l vR vI EP EI) (fun _ _ _ _ _ i _ => qs.length - (intOf i).toNat)
  case atStart =>
    exact ⟨0, [], [], [], _, _, rfl, rfl, Nat.zero_le _, rfl, rfl, rfl, rfl, rfl, rfl, ⟨HB2.out, Nat.le_succ _, z1, z2, HT2.out, HO2.out, rfl, World.ownsRow_nil _ _ _ _, World.ownsRow_nil _ _ _ _, rfl, fun _ => rfl, by simp [Value.ownBlock], by simp⟩⟩
  case round =>
    obtain ⟨k, l, EP, EI, vR, vI, rfl, rfl, hk, rfl, Hl, rfl, rfl, rfl, hbad, hS⟩ := hrel
    by_cases hlt : k < qs.length
    · obtain ⟨p, hpk⟩ : ∃ p, qs[k]? = some p := ⟨_, List.getElem?_eq_getElem hlt⟩
      obtain ⟨b, off, ha, hb, hat⟩ := hP k p hpk
      rw [ha]
      obtain ⟨c0, c1, c2, c3, c4, c5, c6⟩ := hat.below hS.bel hb
      have hFw : F.answers wr.tape := by rw [hS.bel.tape]; exact hF
      have hFr := answers_open hFw
      have HS : Hid (St role w.heap.size (w.heap.size + 1) gP qs.length w wr l vR vI EP EI) := hS
      have hz : w.heap.size < wr.heap.size := by have := hS.TP; have := hS.gz; omega
      have hgz : gP < wr.heap.size := hS.gz
      have hbz : b < wr.heap.size := by omega
      have hlk : Hid (l.length = k) := by show _ = _; rw [Hl.out, List.length_take]; omega
      have lT : (texts role l).length ≤ k := by rw [← hlk.out]; unfold texts; rw [List.length_map]; exact List.length_filter_le _ _
      have lR : (refs role l).length ≤ k := by rw [← hlk.out]; unfold refs; rw [List.length_map]; exact List.length_filter_le _ _
      have lP : EP.length ≤ k := by rw [← hlk.out, ← List.length_map (f := Prod.fst), hS.EPm]; exact List.length_filter_le _ _
      have lI : EI.length ≤ k := by rw [← hlk.out, ← List.length_map (f := Prod.fst), hS.EIm]; exact List.length_filter_le _ _
      have hT1 : Hid (qs.take (k + 1) = l ++ [p]) := by show _ = _; rw [take_snoc hpk, Hl.out]
      clear hpk hat hP ha hS HT2 HO2 HB2 k20 k21
      go_wp2_with fail
      apply rows_value nextTurns
      case hr =>
        go_simp
        exact ⟨rfl, rfl⟩
      case h =>
        generalize hpp : FmtStop.textOf (F "fmt.Sprintf" _ 0) = pp
        have HPP : Hid (pp.size ≤ 2000000) := by show _ ≤ _; rw [← hpp]; exact hpath k hk
        clear hpp
        go_upto_block 2 with fail
        go_cut [10, 12] (fun t r wc => r = vR ∧ ∃ tb, Mid role w.heap.size (w.heap.size + 1) gP qs.length wr l p t wc tb)
        case rest =>
          obtain ⟨hr, tb, hM⟩ := hcut
          rw [hM.t, hr]
          clear hr
          have e6 := hM.e6
          have zz : wr.heap.size < wc.heap.size := by have := hM.z1; have := hM.z2; omega
          have zM : wr.heap.size + 1 + 1 < wc.heap.size := by have := hM.z1; have := hM.z2; omega
          have HM : Hid (Mid role w.heap.size (w.heap.size + 1) gP qs.length wr l p u10 wc tb) := hM
          by_cases hkb : keepB role l = true
          · skip
            rcases hM.cl with hc0 | hc0
            · clear hM
              have hH : wc.heap[wr.heap.size + 1 + 1]? = some (.cells #[.string ⟨#[116, 101, 120, 116]⟩, .pointer (some ⟨tb, 0, none⟩), .pointer none, .pointer none] 51 (0, 0)) := HM.out.m0 hc0
              have m0 : wc.cell? ⟨wr.heap.size + 1 + 1, 0, none⟩ = some (.string ⟨#[116, 101, 120, 116]⟩) := by rw [Lib.cell_of_heap hH]; rfl
              have m1 : wc.cell? ⟨wr.heap.size + 1 + 1, 1, none⟩ = some (.pointer (some ⟨tb, 0, none⟩)) := by rw [Lib.cell_of_heap hH]; rfl
              have m2 : wc.cell? ⟨wr.heap.size + 1 + 1, 2, none⟩ = some (.pointer none) := by rw [Lib.cell_of_heap hH]; rfl
              have m3 : wc.cell? ⟨wr.heap.size + 1 + 1, 3, none⟩ = some (.pointer none) := by rw [Lib.cell_of_heap hH]; rfl
              have mf : ∀ j, wc.frozen? ⟨wr.heap.size + 1 + 1, j, none⟩ = false := fun j => Lib.frozen_of_heap hH j
              have HC : Hid (cls role p = 0) := hc0
              clear hH hc0
              have HE : Hid (eCells role (p, tb) = [.string ⟨#[116, 101, 120, 116]⟩, .pointer (some ⟨tb, 0, none⟩), .pointer none, .pointer p.bp]) := by show _ = _; unfold eCells; rw [if_pos HC.out]
              go_wp2_with (at_builtin; refine wpList_append_fits _ rfl _ _ 29 rfl w.heap.size 51 i51 4 Tryf.underlying29 hi51 hz511 gP EP.length qs.length (EP.flatMap (eCells role)) rfl (rest_own HS.out HM.out _) ⟨wc.heap.size, 0, none⟩ 1 1 [.string ⟨#[116, 101, 120, 116]⟩, .pointer (some ⟨tb, 0, none⟩), .pointer none, .pointer p.bp] rfl rfl ?hc ?h1c ?b1 ?_)
              case hc => exact four_new (by simp [World.setCell])
              case h1c => intro u hu; simp at hu; rcases hu with rfl | rfl | rfl | rfl <;> rfl
              case b1 => omega
              intro w4 hown4 hg4
              have HG4 : Hid (((wc.setCell ⟨wr.heap.size + 1 + 1, 3, none⟩ (.pointer p.bp)).alloc (.cells #[.string ⟨#[116, 101, 120, 116]⟩, .pointer (some ⟨tb, 0, none⟩), .pointer none, .pointer p.bp] 51)).grownBy w4 (some gP)) := hg4
              have HO4 : Hid (w4.ownsRow w.heap.size 51 4 (.slice (some ⟨gP, 0, none⟩) (EP.length + 1) qs.length) (EP.length + 1) (EP.flatMap (eCells role) ++ [.string ⟨#[116, 101, 120, 116]⟩, .pointer (some ⟨tb, 0, none⟩), .pointer none, .pointer p.bp])) := hown4
              clear hown4 hg4
              go_wp2
              go_roundw
              case rel =>
                have hSt := rest_kept HS.out HM.out (txt_ref HC.out).2.2.1 (txt_ref HC.out).2.1 (txt_ref HC.out).2.2.2 (by rw [HE.out]; exact HO4.out) HG4.out
                exact ⟨k + 1, l ++ [p], EP ++ [(p, tb)], EI, _, _, rfl, rfl, by omega, by go_num, hT1.out.symm, rfl, by simp, by rw [keepB_snoc, hkb]; simp, bad_snoc hbad (by simp [bad, HC.out]), hSt⟩
              case measure => simp [intOf]; omega
            · clear hM
              have hH : wc.heap[wr.heap.size + 1 + 1]? = some (.cells #[.string ⟨#[105, 109, 97, 103, 101, 95, 117, 114, 108]⟩, .pointer none, .pointer (some ⟨tb, 0, none⟩), .pointer none] 51 (0, 0)) := HM.out.m3 hc0
              have m0 : wc.cell? ⟨wr.heap.size + 1 + 1, 0, none⟩ = some (.string ⟨#[105, 109, 97, 103, 101, 95, 117, 114, 108]⟩) := by rw [Lib.cell_of_heap hH]; rfl
              have m1 : wc.cell? ⟨wr.heap.size + 1 + 1, 1, none⟩ = some (.pointer none) := by rw [Lib.cell_of_heap hH]; rfl
              have m2 : wc.cell? ⟨wr.heap.size + 1 + 1, 2, none⟩ = some (.pointer (some ⟨tb, 0, none⟩)) := by rw [Lib.cell_of_heap hH]; rfl
              have m3 : wc.cell? ⟨wr.heap.size + 1 + 1, 3, none⟩ = some (.pointer none) := by rw [Lib.cell_of_heap hH]; rfl
              have mf : ∀ j, wc.frozen? ⟨wr.heap.size + 1 + 1, j, none⟩ = false := fun j => Lib.frozen_of_heap hH j
              have HC : Hid (cls role p = 3) := hc0
              clear hH hc0
              have HE : Hid (eCells role (p, tb) = [.string ⟨#[105, 109, 97, 103, 101, 95, 117, 114, 108]⟩, .pointer none, .pointer (some ⟨tb, 0, none⟩), .pointer p.bp]) := by show _ = _; unfold eCells; rw [if_neg (by show ¬ cls role p = 0; rw [HC.out]; decide)]
              by_cases ht : (role.toList == [116, 111, 111, 108]) = true
              · have HT : Hid (isTool role = true) := by show _ = _; simpa [isTool, sTool] using ht
                go_wp2_with (at_builtin; refine wpList_append_loc _ rfl _ _ 29 rfl (gP + 1) 51 i51 (.agg #[.string ⟨#[]⟩, .pointer none, .pointer none, .pointer none]) 4 40 Tryf.underlying29 hi51 hz510 hz511 hz512 rfl (by decide) vI EI.length (EI.flatMap (eCells role)) rfl (rest_ownI HS.out HM.out _) ⟨wc.heap.size, 0, none⟩ 1 1 [.string ⟨#[105, 109, 97, 103, 101, 95, 117, 114, 108]⟩, .pointer none, .pointer (some ⟨tb, 0, none⟩), .pointer p.bp] rfl rfl ?hc ?h1c ?b1 ?b2 ?b3 ?_)
                case hc => exact four_new (by simp [World.setCell])
                case h1c => intro u hu; simp at hu; rcases hu with rfl | rfl | rfl | rfl <;> rfl
                case b1 => unfold maxLen; omega
                case b2 => omega
                case b3 => simp [World.setCell]; omega
                intro v' w4 hown4 hg4 _ hloc
                have HG4 : Hid (((wc.setCell ⟨wr.heap.size + 1 + 1, 3, none⟩ (.pointer p.bp)).alloc (.cells #[.string ⟨#[105, 109, 97, 103, 101, 95, 117, 114, 108]⟩, .pointer none, .pointer (some ⟨tb, 0, none⟩), .pointer p.bp] 51)).grownBy w4 vI.ownBlock) := hg4
                have HO4 : Hid (w4.ownsRow (gP + 1) 51 4 v' (EI.length + 1) (EI.flatMap (eCells role) ++ [.string ⟨#[105, 109, 97, 103, 101, 95, 117, 114, 108]⟩, .pointer none, .pointer (some ⟨tb, 0, none⟩), .pointer p.bp])) := hown4
                have HL4 : Hid (∀ k, v'.ownBlock = some k → vI.ownBlock = some k ∨ wc.heap.size ≤ k) := by
                  intro k hk
                  rcases hloc k hk with h | h
                  · exact .inl h
                  · right
                    first | omega | (simp [World.setCell] at h; omega)
                clear hown4 hg4 hloc
                go_wp2
                go_roundw
                case rel =>
                  have hSt := rest_img HS.out HM.out HC.out HT.out (by rw [HE.out]; exact HO4.out) HG4.out HL4.out
                  exact ⟨k + 1, l ++ [p], EP, EI ++ [(p, tb)], _, _, rfl, rfl, by omega, by go_num, hT1.out.symm, rfl, rfl, by rw [keepB_snoc, hkb]; simp, bad_snoc hbad (by simp [bad, HC.out]), hSt⟩
                case measure => simp [intOf]; omega
              · have ht' : (role.toList == [116, 111, 111, 108]) = false := by simpa using ht
                have HT : Hid (isTool role = false) := by show _ = _; simpa [isTool, sTool] using ht
                clear ht
                go_wp2_with (at_builtin; refine wpList_append_fits _ rfl _ _ 29 rfl w.heap.size 51 i51 4 Tryf.underlying29 hi51 hz511 gP EP.length qs.length (EP.flatMap (eCells role)) rfl (rest_own HS.out HM.out _) ⟨wc.heap.size, 0, none⟩ 1 1 [.string ⟨#[105, 109, 97, 103, 101, 95, 117, 114, 108]⟩, .pointer none, .pointer (some ⟨tb, 0, none⟩), .pointer p.bp] rfl rfl ?hc ?h1c ?b1 ?_)
                case hc => exact four_new (by simp [World.setCell])
                case h1c => intro u hu; simp at hu; rcases hu with rfl | rfl | rfl | rfl <;> rfl
                case b1 => omega
                intro w4 hown4 hg4
                have HG4 : Hid (((wc.setCell ⟨wr.heap.size + 1 + 1, 3, none⟩ (.pointer p.bp)).alloc (.cells #[.string ⟨#[105, 109, 97, 103, 101, 95, 117, 114, 108]⟩, .pointer none, .pointer (some ⟨tb, 0, none⟩), .pointer p.bp] 51)).grownBy w4 (some gP)) := hg4
                have HO4 : Hid (w4.ownsRow w.heap.size 51 4 (.slice (some ⟨gP, 0, none⟩) (EP.length + 1) qs.length) (EP.length + 1) (EP.flatMap (eCells role) ++ [.string ⟨#[105, 109, 97, 103, 101, 95, 117, 114, 108]⟩, .pointer none, .pointer (some ⟨tb, 0, none⟩), .pointer p.bp])) := hown4
                clear hown4 hg4
                go_wp2
                go_roundw
                case rel =>
                  have hSt := rest_kept HS.out HM.out (pic_txt HC.out HT.out).2.2.1 (pic_txt HC.out HT.out).2.1 (pic_txt HC.out HT.out).2.2.2 (by rw [HE.out]; exact HO4.out) HG4.out
                  exact ⟨k + 1, l ++ [p], EP ++ [(p, tb)], EI, _, _, rfl, rfl, by omega, by go_num, hT1.out.symm, rfl, by simp, by rw [keepB_snoc, hkb]; simp, bad_snoc hbad (by simp [bad, HC.out]), hSt⟩
                case measure => simp [intOf]; omega
          · have hkb' : keepB role l = false := by simpa using hkb
            clear hkb
            rcases hM.cl with hc0 | hc0
            · clear hM
              have hH : wc.heap[wr.heap.size + 1 + 1]? = some (.cells #[.string ⟨#[116, 101, 120, 116]⟩, .pointer (some ⟨tb, 0, none⟩), .pointer none, .pointer none] 51 (0, 0)) := HM.out.m0 hc0
              have m0 : wc.cell? ⟨wr.heap.size + 1 + 1, 0, none⟩ = some (.string ⟨#[116, 101, 120, 116]⟩) := by rw [Lib.cell_of_heap hH]; rfl
              have m1 : wc.cell? ⟨wr.heap.size + 1 + 1, 1, none⟩ = some (.pointer (some ⟨tb, 0, none⟩)) := by rw [Lib.cell_of_heap hH]; rfl
              have m2 : wc.cell? ⟨wr.heap.size + 1 + 1, 2, none⟩ = some (.pointer none) := by rw [Lib.cell_of_heap hH]; rfl
              have m3 : wc.cell? ⟨wr.heap.size + 1 + 1, 3, none⟩ = some (.pointer none) := by rw [Lib.cell_of_heap hH]; rfl
              have mf : ∀ j, wc.frozen? ⟨wr.heap.size + 1 + 1, j, none⟩ = false := fun j => Lib.frozen_of_heap hH j
              have HC : Hid (cls role p = 0) := hc0
              clear hH hc0
              have HE : Hid (eCells role (p, tb) = [.string ⟨#[116, 101, 120, 116]⟩, .pointer (some ⟨tb, 0, none⟩), .pointer none, .pointer p.bp]) := by show _ = _; unfold eCells; rw [if_pos HC.out]
              go_wp2_with (at_builtin; refine wpList_append_fits _ rfl _ _ 29 rfl w.heap.size 51 i51 4 Tryf.underlying29 hi51 hz511 gP EP.length qs.length (EP.flatMap (eCells role)) rfl (rest_own HS.out HM.out _) ⟨wc.heap.size, 0, none⟩ 1 1 [.string ⟨#[116, 101, 120, 116]⟩, .pointer (some ⟨tb, 0, none⟩), .pointer none, .pointer p.bp] rfl rfl ?hc ?h1c ?b1 ?_)
              case hc => exact four_new (by simp [World.setCell])
              case h1c => intro u hu; simp at hu; rcases hu with rfl | rfl | rfl | rfl <;> rfl
              case b1 => omega
              intro w4 hown4 hg4
              have HG4 : Hid (((wc.setCell ⟨wr.heap.size + 1 + 1, 3, none⟩ (.pointer p.bp)).alloc (.cells #[.string ⟨#[116, 101, 120, 116]⟩, .pointer (some ⟨tb, 0, none⟩), .pointer none, .pointer p.bp] 51)).grownBy w4 (some gP)) := hg4
              have HO4 : Hid (w4.ownsRow w.heap.size 51 4 (.slice (some ⟨gP, 0, none⟩) (EP.length + 1) qs.length) (EP.length + 1) (EP.flatMap (eCells role) ++ [.string ⟨#[116, 101, 120, 116]⟩, .pointer (some ⟨tb, 0, none⟩), .pointer none, .pointer p.bp])) := hown4
              clear hown4 hg4
              go_wp2
              go_roundw
              case rel =>
                have hSt := rest_kept HS.out HM.out (txt_ref HC.out).2.2.1 (txt_ref HC.out).2.1 (txt_ref HC.out).2.2.2 (by rw [HE.out]; exact HO4.out) HG4.out
                exact ⟨k + 1, l ++ [p], EP ++ [(p, tb)], EI, _, _, rfl, rfl, by omega, by go_num, hT1.out.symm, rfl, by simp, by rw [keepB_snoc, hkb']; simp [keeps, txt, HC.out], bad_snoc hbad (by simp [bad, HC.out]), hSt⟩
              case measure => simp [intOf]; omega
            · clear hM
              have hH : wc.heap[wr.heap.size + 1 + 1]? = some (.cells #[.string ⟨#[105, 109, 97, 103, 101, 95, 117, 114, 108]⟩, .pointer none, .pointer (some ⟨tb, 0, none⟩), .pointer none] 51 (0, 0)) := HM.out.m3 hc0
              have m0 : wc.cell? ⟨wr.heap.size + 1 + 1, 0, none⟩ = some (.string ⟨#[105, 109, 97, 103, 101, 95, 117, 114, 108]⟩) := by rw [Lib.cell_of_heap hH]; rfl
              have m1 : wc.cell? ⟨wr.heap.size + 1 + 1, 1, none⟩ = some (.pointer none) := by rw [Lib.cell_of_heap hH]; rfl
              have m2 : wc.cell? ⟨wr.heap.size + 1 + 1, 2, none⟩ = some (.pointer (some ⟨tb, 0, none⟩)) := by rw [Lib.cell_of_heap hH]; rfl
              have m3 : wc.cell? ⟨wr.heap.size + 1 + 1, 3, none⟩ = some (.pointer none) := by rw [Lib.cell_of_heap hH]; rfl
              have mf : ∀ j, wc.frozen? ⟨wr.heap.size + 1 + 1, j, none⟩ = false := fun j => Lib.frozen_of_heap hH j
              have HC : Hid (cls role p = 3) := hc0
              clear hH hc0
              have HE : Hid (eCells role (p, tb) = [.string ⟨#[105, 109, 97, 103, 101, 95, 117, 114, 108]⟩, .pointer none, .pointer (some ⟨tb, 0, none⟩), .pointer p.bp]) := by show _ = _; unfold eCells; rw [if_neg (by show ¬ cls role p = 0; rw [HC.out]; decide)]
              by_cases ht : (role.toList == [116, 111, 111, 108]) = true
              · have HT : Hid (isTool role = true) := by show _ = _; simpa [isTool, sTool] using ht
                go_wp2_with (at_builtin; refine wpList_append_loc _ rfl _ _ 29 rfl (gP + 1) 51 i51 (.agg #[.string ⟨#[]⟩, .pointer none, .pointer none, .pointer none]) 4 40 Tryf.underlying29 hi51 hz510 hz511 hz512 rfl (by decide) vI EI.length (EI.flatMap (eCells role)) rfl (rest_ownI HS.out HM.out _) ⟨wc.heap.size, 0, none⟩ 1 1 [.string ⟨#[105, 109, 97, 103, 101, 95, 117, 114, 108]⟩, .pointer none, .pointer (some ⟨tb, 0, none⟩), .pointer p.bp] rfl rfl ?hc ?h1c ?b1 ?b2 ?b3 ?_)
                case hc => exact four_new (by simp [World.setCell])
                case h1c => intro u hu; simp at hu; rcases hu with rfl | rfl | rfl | rfl <;> rfl
                case b1 => unfold maxLen; omega
                case b2 => omega
                case b3 => simp [World.setCell]; omega
                intro v' w4 hown4 hg4 _ hloc
                have HG4 : Hid (((wc.setCell ⟨wr.heap.size + 1 + 1, 3, none⟩ (.pointer p.bp)).alloc (.cells #[.string ⟨#[105, 109, 97, 103, 101, 95, 117, 114, 108]⟩, .pointer none, .pointer (some ⟨tb, 0, none⟩), .pointer p.bp] 51)).grownBy w4 vI.ownBlock) := hg4
                have HO4 : Hid (w4.ownsRow (gP + 1) 51 4 v' (EI.length + 1) (EI.flatMap (eCells role) ++ [.string ⟨#[105, 109, 97, 103, 101, 95, 117, 114, 108]⟩, .pointer none, .pointer (some ⟨tb, 0, none⟩), .pointer p.bp])) := hown4
                have HL4 : Hid (∀ k, v'.ownBlock = some k → vI.ownBlock = some k ∨ wc.heap.size ≤ k) := by
                  intro k hk
                  rcases hloc k hk with h | h
                  · exact .inl h
                  · right
                    first | omega | (simp [World.setCell] at h; omega)
                clear hown4 hg4 hloc
                go_wp2
                go_roundw
                case rel =>
                  have hSt := rest_img HS.out HM.out HC.out HT.out (by rw [HE.out]; exact HO4.out) HG4.out HL4.out
                  exact ⟨k + 1, l ++ [p], EP, EI ++ [(p, tb)], _, _, rfl, rfl, by omega, by go_num, hT1.out.symm, rfl, rfl, by rw [keepB_snoc, hkb']; simp [keeps, txt, HC.out, HT.out], bad_snoc hbad (by simp [bad, HC.out]), hSt⟩
                case measure => simp [intOf]; omega
              · have ht' : (role.toList == [116, 111, 111, 108]) = false := by simpa using ht
                have HT : Hid (isTool role = false) := by show _ = _; simpa [isTool, sTool] using ht
                clear ht
                go_wp2_with (at_builtin; refine wpList_append_fits _ rfl _ _ 29 rfl w.heap.size 51 i51 4 Tryf.underlying29 hi51 hz511 gP EP.length qs.length (EP.flatMap (eCells role)) rfl (rest_own HS.out HM.out _) ⟨wc.heap.size, 0, none⟩ 1 1 [.string ⟨#[105, 109, 97, 103, 101, 95, 117, 114, 108]⟩, .pointer none, .pointer (some ⟨tb, 0, none⟩), .pointer p.bp] rfl rfl ?hc ?h1c ?b1 ?_)
                case hc => exact four_new (by simp [World.setCell])
                case h1c => intro u hu; simp at hu; rcases hu with rfl | rfl | rfl | rfl <;> rfl
                case b1 => omega
                intro w4 hown4 hg4
                have HG4 : Hid (((wc.setCell ⟨wr.heap.size + 1 + 1, 3, none⟩ (.pointer p.bp)).alloc (.cells #[.string ⟨#[105, 109, 97, 103, 101, 95, 117, 114, 108]⟩, .pointer none, .pointer (some ⟨tb, 0, none⟩), .pointer p.bp] 51)).grownBy w4 (some gP)) := hg4
                have HO4 : Hid (w4.ownsRow w.heap.size 51 4 (.slice (some ⟨gP, 0, none⟩) (EP.length + 1) qs.length) (EP.length + 1) (EP.flatMap (eCells role) ++ [.string ⟨#[105, 109, 97, 103, 101, 95, 117, 114, 108]⟩, .pointer none, .pointer (some ⟨tb, 0, none⟩), .pointer p.bp])) := hown4
                clear hown4 hg4
                go_wp2
                go_roundw
                case rel =>
                  have hSt := rest_kept HS.out HM.out (pic_txt HC.out HT.out).2.2.1 (pic_txt HC.out HT.out).2.1 (pic_txt HC.out HT.out).2.2.2 (by rw [HE.out]; exact HO4.out) HG4.out
                  exact ⟨k + 1, l ++ [p], EP ++ [(p, tb)], EI, _, _, rfl, rfl, by omega, by go_num, hT1.out.symm, rfl, by simp, by rw [keepB_snoc, hkb']; simp [keeps, HC.out, HT.out], bad_snoc hbad (by simp [bad, HC.out]), hSt⟩
                case measure => simp [intOf]; omega
        case first =>
          by_cases t1 : (p.ty.toList == [105, 110, 112, 117, 116, 95, 116, 101, 120, 116]) = true
          · have hc : Hid (cls role p = 0) := by show _ = _; simp [cls, sInput, sOutput, t1]
            go_wp2_with (at_builtin; refine wpList_append_fits _ rfl _ _ 39 rfl w.heap.size 9 i9 1 Tryf.underlying39 hi9 hz91 (w.heap.size + 1) (texts role l).length qs.length ((texts role l).map Value.string) rfl ((((HS.out.T.alloc _).alloc _).alloc _).alloc _).drew ⟨wr.heap.size + 1 + 1 + 1, 0, none⟩ 1 1 [.string p.tx] rfl rfl ?hc ?h1c ?b1 ?_)
            case hc => exact one_new (by simp)
            case h1c => intro u hu; simp at hu; subst hu; rfl
            case b1 => omega
            intro w2 hownT hg1
            have z2' : wr.heap.size + 1 + 1 + 1 < w2.heap.size := by have := hg1.size; simp at this; omega
            have HV2 : Hid (w2.heap[wr.heap.size]? = some (.cells #[.string p.ty, .string p.tx, .string p.rf, .string p.iu, .pointer p.fi, .string p.dt, .pointer p.bp] 53 (0, 0))) := (hg1.block wr.heap.size (by simp; omega) (by simp; omega)).trans ((Lib.alloc_old _ _ _ (by simp; omega)).trans (base3 wr _ _ _).1)
            have HM2 : Hid (w2.heap[wr.heap.size + 1 + 1]? = some (.cells #[.string ⟨#[]⟩, .pointer none, .pointer none, .pointer none] 51 (0, 0))) := (hg1.block (wr.heap.size + 1 + 1) (by simp) (by simp; omega)).trans ((Lib.alloc_old _ _ _ (by simp)).trans (base3 wr _ _ _).2)
            have e1 : w2.cell? ⟨wr.heap.size, 1, none⟩ = some (.string p.tx) := by rw [Lib.cell_of_heap HV2.out]; rfl
            have m0 : w2.cell? ⟨wr.heap.size + 1 + 1, 0, none⟩ = some (.string ⟨#[]⟩) := by rw [Lib.cell_of_heap HM2.out]; rfl
            have m1 : w2.cell? ⟨wr.heap.size + 1 + 1, 1, none⟩ = some (.pointer none) := by rw [Lib.cell_of_heap HM2.out]; rfl
            have m2 : w2.cell? ⟨wr.heap.size + 1 + 1, 2, none⟩ = some (.pointer none) := by rw [Lib.cell_of_heap HM2.out]; rfl
            have m3 : w2.cell? ⟨wr.heap.size + 1 + 1, 3, none⟩ = some (.pointer none) := by rw [Lib.cell_of_heap HM2.out]; rfl
            have mf : ∀ j, w2.frozen? ⟨wr.heap.size + 1 + 1, j, none⟩ = false := fun j => Lib.frozen_of_heap HM2.out j
            have HF1 : Hid (Fr (fun k => k = w.heap.size + 1) wr w2) := (((((Fr.refl _ wr).alloc _).alloc _).alloc _).alloc _).drew.grown hg1 (by intro k hk; left; simpa using hk.symm)
            have HO1 : Hid (w2.ownsRow w.heap.size 9 1 (.slice (some ⟨w.heap.size + 1, 0, none⟩) ((texts role l).length + 1) qs.length) ((texts role l).length + 1) ((texts role l).map Value.string ++ [.string p.tx])) := hownT
            clear hownT hg1
            have y0 : wr.heap.size < w2.heap.size := by omega
            have y1 : wr.heap.size < w2.heap.size + 1 := by omega
            have x0 : wr.heap.size + 1 + 1 < w2.heap.size := by omega
            have x1 : wr.heap.size + 1 + 1 < w2.heap.size + 1 := by omega
            go_wp2_with (go_at_call 23; refine (text_any p.tx _).mono ?_; rintro e w' ⟨rfl, cs, rfl⟩)
            go_meet
            case rel => exact ⟨rfl, w2.heap.size, mid_text hc.out HF1.out HO1.out HV2.out rfl HM2.out z2' (by omega)⟩
          have t1' : (p.ty.toList == [105, 110, 112, 117, 116, 95, 116, 101, 120, 116]) = false := by simpa using t1
          clear t1
          by_cases t2 : (p.ty.toList == [111, 117, 116, 112, 117, 116, 95, 116, 101, 120, 116]) = true
          · have hc : Hid (cls role p = 0) := by show _ = _; simp [cls, sInput, sOutput, t2]
            go_wp2_with (at_builtin; refine wpList_append_fits _ rfl _ _ 39 rfl w.heap.size 9 i9 1 Tryf.underlying39 hi9 hz91 (w.heap.size + 1) (texts role l).length qs.length ((texts role l).map Value.string) rfl ((((HS.out.T.alloc _).alloc _).alloc _).alloc _).drew ⟨wr.heap.size + 1 + 1 + 1, 0, none⟩ 1 1 [.string p.tx] rfl rfl ?hc ?h1c ?b1 ?_)
            case hc => exact one_new (by simp)
            case h1c => intro u hu; simp at hu; subst hu; rfl
            case b1 => omega
            intro w2 hownT hg1
            have z2' : wr.heap.size + 1 + 1 + 1 < w2.heap.size := by have := hg1.size; simp at this; omega
            have HV2 : Hid (w2.heap[wr.heap.size]? = some (.cells #[.string p.ty, .string p.tx, .string p.rf, .string p.iu, .pointer p.fi, .string p.dt, .pointer p.bp] 53 (0, 0))) := (hg1.block wr.heap.size (by simp; omega) (by simp; omega)).trans ((Lib.alloc_old _ _ _ (by simp; omega)).trans (base3 wr _ _ _).1)
            have HM2 : Hid (w2.heap[wr.heap.size + 1 + 1]? = some (.cells #[.string ⟨#[]⟩, .pointer none, .pointer none, .pointer none] 51 (0, 0))) := (hg1.block (wr.heap.size + 1 + 1) (by simp) (by simp; omega)).trans ((Lib.alloc_old _ _ _ (by simp)).trans (base3 wr _ _ _).2)
            have e1 : w2.cell? ⟨wr.heap.size, 1, none⟩ = some (.string p.tx) := by rw [Lib.cell_of_heap HV2.out]; rfl
            have m0 : w2.cell? ⟨wr.heap.size + 1 + 1, 0, none⟩ = some (.string ⟨#[]⟩) := by rw [Lib.cell_of_heap HM2.out]; rfl
            have m1 : w2.cell? ⟨wr.heap.size + 1 + 1, 1, none⟩ = some (.pointer none) := by rw [Lib.cell_of_heap HM2.out]; rfl
            have m2 : w2.cell? ⟨wr.heap.size + 1 + 1, 2, none⟩ = some (.pointer none) := by rw [Lib.cell_of_heap HM2.out]; rfl
            have m3 : w2.cell? ⟨wr.heap.size + 1 + 1, 3, none⟩ = some (.pointer none) := by rw [Lib.cell_of_heap HM2.out]; rfl
            have mf : ∀ j, w2.frozen? ⟨wr.heap.size + 1 + 1, j, none⟩ = false := fun j => Lib.frozen_of_heap HM2.out j
            have HF1 : Hid (Fr (fun k => k = w.heap.size + 1) wr w2) := (((((Fr.refl _ wr).alloc _).alloc _).alloc _).alloc _).drew.grown hg1 (by intro k hk; left; simpa using hk.symm)
            have HO1 : Hid (w2.ownsRow w.heap.size 9 1 (.slice (some ⟨w.heap.size + 1, 0, none⟩) ((texts role l).length + 1) qs.length) ((texts role l).length + 1) ((texts role l).map Value.string ++ [.string p.tx])) := hownT
            clear hownT hg1
            have y0 : wr.heap.size < w2.heap.size := by omega
            have y1 : wr.heap.size < w2.heap.size + 1 := by omega
            have x0 : wr.heap.size + 1 + 1 < w2.heap.size := by omega
            have x1 : wr.heap.size + 1 + 1 < w2.heap.size + 1 := by omega
            go_wp2_with (go_at_call 23; refine (text_any p.tx _).mono ?_; rintro e w' ⟨rfl, cs, rfl⟩)
            go_meet
            case rel => exact ⟨rfl, w2.heap.size, mid_text hc.out HF1.out HO1.out HV2.out rfl HM2.out z2' (by omega)⟩
          have t2' : (p.ty.toList == [111, 117, 116, 112, 117, 116, 95, 116, 101, 120, 116]) = false := by simpa using t2
          clear t2
          by_cases t3 : (p.ty.toList == [114, 101, 102, 117, 115, 97, 108]) = true
          · by_cases ra : (role.toList == [97, 115, 115, 105, 115, 116, 97, 110, 116]) = true
            · have hc : Hid (cls role p = 1) := by show _ = _; simp [cls, sInput, sOutput, sRefusal, sAssistant, t1', t2', t3, ra]
              go_wp2_with (at_builtin; refine wpList_append_loc _ rfl _ _ 39 rfl (gP + 1) 9 i9 (.string ⟨#[]⟩) 1 16 Tryf.underlying39 hi9 hz90 hz91 hz92 rfl (by decide) vR (refs role l).length ((refs role l).map Value.string) rfl ((((HS.out.R.alloc _).alloc _).alloc _).alloc _).drew ⟨wr.heap.size + 1 + 1 + 1, 0, none⟩ 1 1 [.string p.rf] rfl rfl ?hc ?h1c ?b1 ?b2 ?b3 ?_)
              case hc => exact one_new (by simp)
              case h1c => intro u hu; simp at hu; subst hu; rfl
              case b1 => unfold maxLen; omega
              case b2 => omega
              case b3 => simp; omega
              intro v' w2 hown' hgrow _ hloc
              have hrs : refs role (l ++ [p]) = refs role l ++ [p.rf] := by rw [refs_snoc, if_pos (ref_txt hc.out).2.1]
              have HR2 : Hid (w2.ownsRow (gP + 1) 9 1 v' (refs role (l ++ [p])).length ((refs role (l ++ [p])).map Value.string)) := by
                show World.ownsRow _ _ _ _ _ _ _
                rw [hrs, List.map_append, List.length_append]
                exact hown'
              have HF1 : Hid (Fr (fun k => vR.ownBlock = some k) wr w2) := (((((Fr.refl _ wr).alloc _).alloc _).alloc _).alloc _).drew.grown hgrow (by intro k hk; left; exact hk)
              have HL1 : Hid (∀ k, v'.ownBlock = some k → vR.ownBlock = some k ∨ wr.heap.size ≤ k) := by
                intro k hk
                rcases hloc k hk with h | h
                · exact .inl h
                · right; first | omega | (simp at h; omega)
              clear hown' hgrow hloc hrs
              go_wp2
              go_roundw
              case rel =>
                exact ⟨k + 1, l ++ [p], EP, EI, _, _, rfl, rfl, by omega, by go_num, hT1.out.symm, by rw [texts_snoc, if_neg (by simp [(ref_txt hc.out).1])], rfl, by rw [keepB_snoc]; simp [keeps, txt, hc.out], bad_snoc hbad (by simp [bad, hc.out]), HS.out.refStep hc.out HF1.out HR2.out HL1.out⟩
              case measure => simp [intOf]; omega
            · have ra' : (role.toList == [97, 115, 115, 105, 115, 116, 97, 110, 116]) = false := by simpa using ra
              have hc : Hid (cls role p = 2) := by show _ = _; simp [cls, sInput, sOutput, sRefusal, sAssistant, t1', t2', t3, ra']
              clear ra
              go_wp2_with fail
              refine (inv2 F _ _ _ pp role (wr.heap.size + 1 + 1 + 1) _ (by exact hFw) (by kernel_rfl) (by go_simp) (by go_simp) (by simp)).mono ?_
              rintro e w3 ⟨q, rfl, hB3⟩
              go_wp2
              exact bodyPost_ret (v := .tuple #[.pointer none, .pointer none, .slice none 0 0, .iface 68 (.pointer (some ⟨q, 0, none⟩))]) (by simp [results, Tryf.results21, go_sem]) rfl (out_bad hT1.out hc.out ((((((HS.out.bel).alloc (by omega) _).alloc (by simp; omega) _).alloc (by simp; omega) _).alloc (by simp; omega) _).drew.trans (hB3.mono (by simp; omega))))
          · have t3' : (p.ty.toList == [114, 101, 102, 117, 115, 97, 108]) = false := by simpa using t3
            clear t3
            by_cases ru : (role.toList == [117, 115, 101, 114]) = true
            · skip
              by_cases ie : p.iu.toList.isEmpty = true
              · have hc : Hid (cls role p = 2) := by show _ = _; simp [cls, sInput, sOutput, sRefusal, sUser, sTool, t1', t2', t3', ru, ie]
                go_wp2_with fail
                refine (inv1 F _ _ _ pp (wr.heap.size + 1 + 1 + 1) _ (by exact hFw) (by kernel_rfl) (by go_simp) (by simp)).mono ?_
                rintro e w3 ⟨q, rfl, hB3⟩
                go_wp2
                exact bodyPost_ret (v := .tuple #[.pointer none, .pointer none, .slice none 0 0, .iface 68 (.pointer (some ⟨q, 0, none⟩))]) (by simp [results, Tryf.results21, go_sem]) rfl (out_bad hT1.out hc.out ((((((HS.out.bel).alloc (by omega) _).alloc (by simp; omega) _).alloc (by simp; omega) _).alloc (by simp; omega) _).drew.trans (hB3.mono (by simp; omega))))
              have ie' : p.iu.toList.isEmpty = false := by simpa using ie
              clear ie
              cases hfi : p.fi with
              | some fa =>
                have hc : Hid (cls role p = 2) := by show _ = _; simp [cls, sInput, sOutput, sRefusal, sUser, sTool, t1', t2', t3', ru, ie', hfi]
                have hpps := HPP.out
                go_wp2_with fail
                refine (inv1 F _ _ _ pp (wr.heap.size + 1 + 1 + 1) _ (by exact hFw) (by kernel_rfl) (by go_simp) (by simp)).mono ?_
                rintro e w3 ⟨q, rfl, hB3⟩
                go_wp2
                exact bodyPost_ret (v := .tuple #[.pointer none, .pointer none, .slice none 0 0, .iface 68 (.pointer (some ⟨q, 0, none⟩))]) (by simp [results, Tryf.results21, go_sem]) rfl (out_bad hT1.out hc.out ((((((HS.out.bel).alloc (by omega) _).alloc (by simp; omega) _).alloc (by simp; omega) _).alloc (by simp; omega) _).drew.trans (hB3.mono (by simp; omega))))
              | none =>
                have hc : Hid (cls role p = 3) := by show _ = _; simp [cls, sInput, sOutput, sRefusal, sUser, sTool, t1', t2', t3', ru, ie', hfi]
                go_wp2_with (go_at_call 26; refine (image_any p.iu p.dt _).mono ?_; rintro e w' ⟨rfl, cs, rfl⟩)
                go_meet
                case rel => exact ⟨rfl, _, mid_image hc.out HS.out.T rfl⟩
            · have ru' : (role.toList == [117, 115, 101, 114]) = false := by simpa using ru
              clear ru
              by_cases rt : (role.toList == [116, 111, 111, 108]) = true
              · skip
                by_cases ie : p.iu.toList.isEmpty = true
                · have hc : Hid (cls role p = 2) := by show _ = _; simp [cls, sInput, sOutput, sRefusal, sUser, sTool, t1', t2', t3', ru', rt, ie]
                  go_wp2_with fail
                  refine (inv1 F _ _ _ pp (wr.heap.size + 1 + 1 + 1) _ (by exact hFw) (by kernel_rfl) (by go_simp) (by simp)).mono ?_
                  rintro e w3 ⟨q, rfl, hB3⟩
                  go_wp2
                  exact bodyPost_ret (v := .tuple #[.pointer none, .pointer none, .slice none 0 0, .iface 68 (.pointer (some ⟨q, 0, none⟩))]) (by simp [results, Tryf.results21, go_sem]) rfl (out_bad hT1.out hc.out ((((((HS.out.bel).alloc (by omega) _).alloc (by simp; omega) _).alloc (by simp; omega) _).alloc (by simp; omega) _).drew.trans (hB3.mono (by simp; omega))))
                have ie' : p.iu.toList.isEmpty = false := by simpa using ie
                clear ie
                cases hfi : p.fi with
                | some fa =>
                  have hc : Hid (cls role p = 2) := by show _ = _; simp [cls, sInput, sOutput, sRefusal, sUser, sTool, t1', t2', t3', ru', rt, ie', hfi]
                  have hpps := HPP.out
                  go_wp2_with fail
                  refine (inv1 F _ _ _ pp (wr.heap.size + 1 + 1 + 1) _ (by exact hFw) (by kernel_rfl) (by go_simp) (by simp)).mono ?_
                  rintro e w3 ⟨q, rfl, hB3⟩
                  go_wp2
                  exact bodyPost_ret (v := .tuple #[.pointer none, .pointer none, .slice none 0 0, .iface 68 (.pointer (some ⟨q, 0, none⟩))]) (by simp [results, Tryf.results21, go_sem]) rfl (out_bad hT1.out hc.out ((((((HS.out.bel).alloc (by omega) _).alloc (by simp; omega) _).alloc (by simp; omega) _).alloc (by simp; omega) _).drew.trans (hB3.mono (by simp; omega))))
                | none =>
                  have hc : Hid (cls role p = 3) := by show _ = _; simp [cls, sInput, sOutput, sRefusal, sUser, sTool, t1', t2', t3', ru', rt, ie', hfi]
                  go_wp2_with (go_at_call 26; refine (image_any p.iu p.dt _).mono ?_; rintro e w' ⟨rfl, cs, rfl⟩)
                  go_meet
                  case rel => exact ⟨rfl, _, mid_image hc.out HS.out.T rfl⟩
              · have rt' : (role.toList == [116, 111, 111, 108]) = false := by simpa using rt
                clear rt
                have hc : Hid (cls role p = 2) := by show _ = _; simp [cls, sInput, sOutput, sRefusal, sUser, sTool, t1', t2', t3', ru', rt']
                go_wp2_with fail
                refine (outside F pp role _ (by exact hFw)).mono ?_
                rintro e w3 ⟨q, rfl, hB3⟩
                go_wp2
                exact bodyPost_ret (v := .tuple #[.pointer none, .pointer none, .slice none 0 0, .iface 68 (.pointer (some ⟨q, 0, none⟩))]) (by simp [results, Tryf.results21, go_sem]) rfl (out_bad hT1.out hc.out (((((HS.out.bel).alloc (by omega) _).alloc (by simp; omega) _).alloc (by simp; omega) _).drew.trans (hB3.mono (by simp; omega))))
    · have hl : l = qs := by rw [Hl.out]; exact List.take_of_length_le (by omega)
      subst hl
      obtain ⟨hm1, hm2⟩ := small_refs (role := role) hn hsm
      obtain ⟨ra, rc, rfl, hR⟩ := strs_of_row hS.R
      obtain ⟨ia, ic, rfl, hI0, hI1⟩ := hS.imgs
      have HS : Hid (St role w.heap.size (w.heap.size + 1) gP l.length w wr l _ _ EP EI) := hS
      have hpos := hm2.1
      have lR := hm1.1
      have lP : EP.length ≤ 1048576 := by rw [← List.length_map (f := Prod.fst), hS.EPm]; exact Nat.le_trans (List.length_filter_le _ _) hn
      have lI : EI.length ≤ 1048576 := by rw [← List.length_map (f := Prod.fst), hS.EIm]; exact Nat.le_trans (List.length_filter_le _ _) hn
      clear hS HT2 HO2 HB2 k20 k21 hP hpath Hl hmx hb9 hb51
      go_wp2_with fail
      refine (joined_any ra rc _ _ hR hm1).mono ?_
      rintro e w3 ⟨r, rfl, HR, HB3⟩
      have hT3 := (HS.out.strsT).below HB3 (Nat.le_refl _)
      have HB : Hid (Below w.heap.size w w3) := HS.out.bel.trans (HB3.mono (by have := HS.out.TP; have := HS.out.gz; omega))
      have HRI : Hid (RowIs role EI w3 ia ic) := HS.out.rowI rfl HB3
      have HRP : Hid (RowIs role EP w3 (some ⟨gP, 0, none⟩) l.length) := HS.out.rowP HB3
      have hw3 : w.heap.size < w3.heap.size := by have := HB3.size; have := HS.out.TP; have := HS.out.gz; omega
      have HM1 := HS.out.EPm
      have HM2 := HS.out.EIm
      have hout : ∀ (w' : World) (c : Option Addr), Below w3.heap.size w3 w' → ConIs role l EP EI w' c → ChatOut role l w w' (.returned (.tuple #[.pointer c, .pointer r, .slice ia EI.length ic, .nilIface])) := fun w' c hB hC =>
        ⟨HB.out.trans (hB.mono (by omega)), .inr ⟨hbad, c, r, ia, ic, EP, EI, rfl, HM1, HM2, hI0, HRI.out.below hB, HR.below hB, hC⟩⟩
      clear HB3 hR hm1 hsm
      by_cases hp0 : EP = []
      · subst hp0
        have hkb : keepB role l = false := keepB_nil HM1.symm
        by_cases hr0 : refs role l = []
        · obtain rfl : r = none := by rcases HR with ⟨_, h⟩ | ⟨h, _⟩; exact h; exact absurd hr0 h
          by_cases hi0 : EI = []
          · subst hi0
            obtain ⟨rfl, rfl⟩ := hI0 rfl
            go_wp2_with (go_at_call 28; refine (join_any _ _ _ _ hT3 hm2).mono ?_; rintro e w4 ⟨rfl, hB4⟩)
            exact bodyPost_ret (v := .tuple #[.pointer (some ⟨w4.heap.size, 0, none⟩), .pointer none, .slice none 0 0, .nilIface]) (by simp [results, Tryf.results21, go_sem]) rfl (hout _ _ (hB4.alloc hB4.size _) (.inr ⟨.inr ⟨hr0, rfl⟩, ⟨w4.heap.size, rfl, by simp, .inl ⟨hkb, by rw [Lib.cell_of_heap (heap_alloc_new w4 _)]; rfl, by rw [Lib.cell_of_heap (heap_alloc_new w4 _)]; rfl⟩⟩⟩))
          · obtain ⟨x, rfl⟩ := hI1 hi0
            go_wp2
            exact bodyPost_ret (v := .tuple #[.pointer none, .pointer none, .slice (some x) EI.length ic, .nilIface]) (by simp [results, Tryf.results21, go_sem]) rfl (hout w3 none (Below.refl _ _) (.inl ⟨rfl, .inr hi0, rfl⟩))
        · obtain ⟨q, rfl⟩ : ∃ q, r = some ⟨q, 0, none⟩ := by rcases HR with ⟨h, _⟩ | ⟨_, q, h, _⟩; exact absurd h hr0; exact ⟨q, h⟩
          go_wp2
          exact bodyPost_ret (v := .tuple #[.pointer none, .pointer (some ⟨q, 0, none⟩), .slice ia EI.length ic, .nilIface]) (by simp [results, Tryf.results21, go_sem]) rfl (hout w3 none (Below.refl _ _) (.inl ⟨rfl, .inl hr0, rfl⟩))
      · have hp1 : 0 < EP.length := List.length_pos_iff.2 hp0
        by_cases hkb : keepB role l = true
        · go_wp2
          exact bodyPost_ret (v := .tuple #[.pointer (some ⟨w3.heap.size, 0, none⟩), .pointer r, .slice ia EI.length ic, .nilIface]) (by simp [results, Tryf.results21, go_sem]) rfl (hout _ _ ((Below.refl _ _).alloc (Nat.le_refl _) _) (.inr ⟨.inl hp0, ⟨w3.heap.size, rfl, by simp, .inr ⟨hkb, by rw [Lib.cell_of_heap (heap_alloc_new w3 _)]; rfl, some ⟨gP, 0, none⟩, l.length, by rw [Lib.cell_of_heap (heap_alloc_new w3 _)]; rfl, HRP.out.below ((Below.refl _ _).alloc (Nat.le_refl _) _)⟩⟩⟩))
        · have hkb' : keepB role l = false := by simpa using hkb
          clear hkb
          go_wp2_with (go_at_call 28; refine (join_any _ _ _ _ hT3 hm2).mono ?_; rintro e w4 ⟨rfl, hB4⟩)
          exact bodyPost_ret (v := .tuple #[.pointer (some ⟨w4.heap.size, 0, none⟩), .pointer r, .slice ia EI.length ic, .nilIface]) (by simp [results, Tryf.results21, go_sem]) rfl (hout _ _ (hB4.alloc hB4.size _) (.inr ⟨.inl hp0, ⟨w4.heap.size, rfl, by simp, .inl ⟨hkb', by rw [Lib.cell_of_heap (heap_alloc_new w4 _)]; rfl, by rw [Lib.cell_of_heap (heap_alloc_new w4 _)]; rfl⟩⟩⟩))
end Go.Proofs.Qxb6613844aFmt
