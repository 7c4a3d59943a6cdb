/- The law: FnChatContentMatchesPartModel. -/
import Derived.Test.Qxb6613844aFmtPtrs
import Derived.Test.Qxb6613844aFmtKey
import Derived.Test.Qxb6613844aFmtZz
import Derived.Test.Qxb6613844aFmtBytes
import Derived.Test.Qxb6613844aFmtBig
import Derived.Test.Qxb6613844aFmtFrom19
import Derived.Deep.RegionHeld3
import Derived.Deep.CutBlock
import Derived.Deep.LoopGhost
import Derived.Deep.Light
import Derived.Deep.DeepCutAuto
namespace Go.Proofs.Qxb6613844aFmt
open Go.RowKit Go.Extern.Stop Go.Stop Go.Extern
attribute [local go_sem] eqlNil22 eqlNil25 eqlNil29 neqNil29

set_option maxHeartbeats 4000000 in
set_option maxRecDepth 100000 in
theorem law_some (role text path : ByteArray) (a : Addr) (cap : Nat) (ps : List LP) (w : World) (hP : Lies w a ps) (hpt : ∀ p ∈ ps, Ptrs w p)
    (H : ∀ (w1 : World) (a1 : Addr) (qs : List LP) (cap1 : Nat), Below w.heap.size w w1 → qs.length ≤ 1048576 → path.size ≤ 1048576 → (∀ q ∈ qs, q.rf.size ≤ 1048576 ∧ q.tx.size ≤ 1048576) → Lies w1 a1 qs → Calls Tryf.prog 21 #[.string role, .agg #[.string text, .slice (some a1) qs.length cap1], .string path] w1 fun e w' => ChatOut role qs w1 w' e) :
    Calls Tryf.prog 3 #[.string role, .string text, .slice (some a) ps.length cap, .string path] w fun e w' => e = .returned (.bool true) ∧ Below w.heap.size w w' := by
  go_enter Tryf.func3, Tryf.ntmps3
  go_wp2_with fail
  refine (bytes_any role text path a cap ps w hP hpt).mono ?_
  rintro e w0 ⟨rfl, b, rfl, hb⟩
  cases b with
  | false =>
    go_wp2
    go_ret
    exact ⟨rfl, Below.refl _ _⟩
  | true =>
  obtain ⟨s1, s2, s3, hn, hsz⟩ := hb rfl
  go_wp2_with fail
  refine (big_any role text path a cap ps w hn hP hpt).mono ?_
  rintro e w1 ⟨hB1, b, rfl⟩
  cases b with
  | true =>
    go_wp2
    go_ret
    exact ⟨rfl, hB1⟩
  | false =>
  have hP1 := hP.below hB1
  have hpt1 : ∀ p ∈ ps, Ptrs w1 p := fun p hp => (hpt p hp).below hB1
  go_wp2_with fail
  refine (tor_any a cap ps w1 hn hP1 ?_).mono ?_
  · intro p hp q hq
    obtain ⟨b, o, m, h1, h2, h3, _⟩ := (hpt1 p hp).2 q hq
    exact ⟨b, o, m, h1, h2, h3⟩
  rintro e w2 ⟨qs, rfl, hkey, hQ2, hB2⟩
  obtain ⟨kl, kb, kr, kt, kk, ki, kp⟩ := keyed role hkey
  have hsq : ∀ q ∈ qs, q.rf.size ≤ 1048576 ∧ q.tx.size ≤ 1048576 := by
    intro q hq
    obtain ⟨i, hi⟩ := List.getElem?_of_mem hq
    obtain ⟨p, hp, hs⟩ := same_at role hkey.symm hi
    rw [hs.rf, hs.tx]
    exact hsz p (List.mem_of_getElem? hp)
  go_wp2_with fail
  have hz := zz_low role text path ⟨w1.heap.size, 0, none⟩ ps.length qs w2 (fun w3 hB3 => H w3 _ qs _ (hB1.trans ((hB2.mono hB1.size).trans (hB3.mono (Nat.le_trans hB1.size hB2.size)))) (by rw [kl]; exact hn) s3 hsq (hQ2.below hB3))
  rw [kl] at hz
  refine hz.mono ?_
  rintro e w3 ⟨hB3, hres⟩
  have hB : Below w.heap.size w w3 := hB1.trans ((hB2.mono hB1.size).trans (hB3.mono (Nat.le_trans hB1.size hB2.size)))
  have hP3 := hP.below hB
  have hQ3 := hQ2.below hB3
  have zI : w1.heap.size ≤ w3.heap.size := Nat.le_trans hB2.size hB3.size
  clear hz H hP hpt hP1 hpt1 hQ2 hB1 hB2 hB3 hsq s1 s2 s3
  generalize w1.heap.size = I at hQ3 zI ⊢
  clear zI
  clear w1 w2
  rcases hres with ⟨hbd, q, rfl⟩ | ⟨hbd, c, r, ia, ic, EP, EI, rfl, hEP, hEI, hI0, hRI, hRR, hCC⟩
  · rw [kb] at hbd
    go_wp2_with fail
    refine (bad_any role a cap ps w3 hn hP3).mono ?_
    rintro e w4 ⟨rfl, hB4⟩
    rw [hbd]
    go_wp2
    go_ret
    exact ⟨rfl, hB.trans (hB4.mono hB.size)⟩
  · rw [kb] at hbd
    go_wp2_with fail
    refine (bad_any role a cap ps w3 hn hP3).mono ?_
    rintro e w4 ⟨rfl, hB4⟩
    rw [hbd]
    go_wp2_with fail
    refine (refs_any role a cap ps w4 hn (hP3.below hB4)).mono ?_
    rintro e w5 ⟨fa, fc, rfl, hF5, hB5⟩
    have hB45 := hB4.trans (hB5.mono hB4.size)
    clear hB4 hB5
    have hRI5 := hRI.below hB45
    have hRR5 := hRR.below hB45
    have hP5 := hP3.below hB45
    have hQ5 := hQ3.below hB45
    have hB' : Below w.heap.size w w5 := hB.trans (hB45.mono hB.size)
    rw [kr] at hRR5
    have hss : refs role ps = (ps.filter (ref role)).map LP.rf := rfl
    have hsm : Small (refs role ps) := (small_refs hn hsz).1
    generalize (ps.filter (ref role)).map LP.rf = ss at hss hF5 ⊢
    rw [hss] at hRR5 hsm
    have hsl := hsm.1
    go_upto_if 105 with fail
    go_cut [14] (fun t wc => t = .slice fa ss.length fc ∧ Below w3.heap.size w3 wc)
    case first =>
      rcases hRR5 with ⟨rfl, rfl⟩ | ⟨hr0, q, rfl, hq, hqc⟩
      · go_wp2_with fail
        go_meet
        case rel => exact ⟨rfl, hB45⟩
      · have hl0 : 0 < ss.length := List.length_pos_iff.2 hr0
        go_wp2_with fail
        go_region_held3 (fun w' => w'.cell? ⟨q, 0, none⟩ = some (.string (joinB ss))) (first | go_keep | (exact (hB6.cell (p := ⟨q, 0, none⟩) hq).trans hqc))
          (first | (go_at_call 11; refine (lines_any fa fc ss _ ?_ hsm).mono ?_; (first | exact hF5 | exact hF5.drew); rintro e w' ⟨rfl, hB6⟩))
        go_wp2_with fail
        go_meet
        case rel => exact ⟨rfl, hB45.drew.trans (hB6.mono hB45.size)⟩
    case rest =>
      obtain ⟨rfl, hB6⟩ := hcut
      apply_assumption
      apply from19 role a cap ps qs I c ia fa ic fc ss EP EI w w3 wc hn hsz hkey hB hP3 hQ3 hEP hEI hss hCC hI0 hRI hB6
end Go.Proofs.Qxb6613844aFmt
