/- THE STATEMENT on FnChatContentMatchesPartModel: the told card. -/
import Derived.Test.Qxb6613844aFmtCards
import Derived.Test.Qxb6613844aFmtOpen
import Derived.Test.Qxb6613844aFmtLaw
import Derived.Test.Qxb6613844aFmtLawNil
import Derived.Test.Qxb6613844aFmtChat
import Derived.Test.Qxb6613844aFmtTold
import Derived.ProofKit
import Derived.Stop.JoinedAt
import Derived.Stop.JoinedTold
import Derived.SizedLaws
import Derived.SevenToldRow
namespace Go.Proofs.Qxb6613844aFmt
open Go.ChangeShapes Go.WideShapes Go.ChangeAt Go.RowKit Go.Kit
open Go.ChangeMaps (open_string shut_string)
open Go.Extern.Stop Go.Stop Go.Extern

theorem Tryf.own : ownKnob Tryf.prog.godebug = none := by kernel_rfl
theorem Tryf.laidOut : laidOutB Tryf.pinned.checked.prog = true := by kernel_rfl
theorem Tryf.stops : Tryf.pinned.checked.prog.stops = Rows.fnChatContentMatchesPartModelRow.stops := by kernel_rfl
theorem Tryf.stopKnobs : Tryf.pinned.checked.prog.stopKnobs = [] := by kernel_rfl
theorem Tryf.quiet (os : Os) : Stop.quiet Tryf.pinned.checked.prog os := by
  intro k hk
  rw [Tryf.stopKnobs] at hk
  cases hk

theorem law_any (F : Interp) (role text path : ByteArray) (a : Addr) (cap : Nat) (ps : List LP) (w : World) (hF : F.told.answers w.tape) (hP : Lies w a ps) (hpt : ∀ p ∈ ps, Ptrs w p) :
    Calls Tryf.prog 3 #[.string role, .string text, .slice (some a) ps.length cap, .string path] w fun e w' => e = .returned (.bool true) ∧ Below w.heap.size w w' :=
  law_some role text path a cap ps w hP hpt (fun w1 a1 qs cap1 hB hl hp hs hQ =>
    chat_low F.told role text path a1 cap1 qs w1 (by rw [hB.tape]; exact hF) hl hQ hs (fun k hk => ppath_size F path k hp (Nat.le_trans hk hl)))

set_option maxRecDepth 100000 in
theorem f_lifted (os : Os) (started : os.Started) (H : Type) (enc : TypeId × Value → H) :
    ReturnsInTold none {} Tryf.checked os 3 .any Input.okWide ((OpenSpec.ofChange Rows.fnChatContentMatchesPartModelSpec).preRow enc Tryf.prog Tryf.f3 [] false []) (fun F => ((OpenSpec.ofChange Rows.fnChatContentMatchesPartModelSpec).at F).post enc Tryf.prog Tryf.f3 false true false false) (aloneAtReturn Tryf.prog) nothingAlways := by
  refine returnsInTold_of_row (C := Tryf.checked) (s := OpenSpec.ofChange Rows.fnChatContentMatchesPartModelSpec) (by kernel_rfl) Tryf.own started (by kernel_rfl) Tryf.func3
    (OpenSpec.witness_stopped (enc := enc) (C := Tryf.checked) false ⟨#[], #[.string ⟨#[]⟩, .string ⟨#[]⟩, .slice none 0 0, .string ⟨#[]⟩], []⟩ 8 (by kernel_rfl) (by kernel_rfl) (by kernel_rfl) (by kernel_rfl)) ?_
  intro F W base args ds gs before _ hF hval0 hW _ _ hsz _ _
  have hval : ∀ (j : Nat) t v, Tryf.f3.params[j]? = some t → args[j]? = some v → Value.okWide Tryf.prog W .any base t v := hval0
  have hW' := hW
  obtain ⟨p, q, hA0, hV, rfl, hfz, hnd⟩ := hW
  have hA : DataW.TrodAll enc Tryf.prog W 0 (fun _ => true) true Tryf.f3.params.toList args.toList ds p := hA0
  rw [Tryf.params3] at hA hval
  obtain ⟨v0, v1, v2, v3, d0, d1, d2, d3, p0, p1, p2, p3, rfl, rfl, rfl, h0, h1, h2, h3⟩ := trodAll_four hA
  obtain ⟨rfl, rfl⟩ := trodVars_none hV
  obtain ⟨role, rfl, rfl, rfl, w0⟩ := open_string Tryf.underlying9 (hval 0 9 v0 rfl rfl) h0
  obtain ⟨text, rfl, rfl, rfl, w1⟩ := open_string Tryf.underlying9 (hval 1 9 v1 rfl rfl) h1
  obtain ⟨path, rfl, rfl, rfl, w3⟩ := open_string Tryf.underlying9 (hval 3 9 v3 rfl rfl) h3
  have hcall : Calls Tryf.prog 3 #[.string role, .string text, v2, .string path] W fun e w' => e = .returned (.bool true) ∧ Below W.heap.size W w' := by
    rcases open_parts (hval 2 22 v2 rfl rfl) h2 with rfl | ⟨a, cap, ps, rfl, hP, hpt⟩
    · exact law_nil role text path W
    · exact law_any F role text path a cap ps W hF hP hpt
  clear hA0 hval0
  refine hcall.mono fun e W' ⟨he, bel⟩ => ?_
  subst he
  have hlt : ∀ x ∈ p2, x.block < W.heap.size := fun x hx => by
    have := hW'.lt x (by simp [hx])
    simpa using this
  refine ⟨_, rfl, _, _, _, [], [] ++ [] ++ p2 ++ [], [], hW', ?_, ?_, ?_, bel.frame _, fun h => by cases h⟩
  · exact trodAll_mk1 (shut_bool Tryf.underlying4 _)
  · exact trodAll_mk4 (shut_string Tryf.underlying9 w0) (shut_string Tryf.underlying9 w1) (Below.trod Tryf.laidOut (by kernel_rfl) (of_decide_eq_true (by kernel_rfl)) h2 bel hlt) (shut_string Tryf.underlying9 w3)
  · rfl

/-- ████ THE STATEMENT ████ -/
theorem fnChatContentMatchesPartModelTold_proved : Rows.FnChatContentMatchesPartModelToldSaid :=
  Claim7.holds_of_told_any 3 Tryf.f3 _ [] [] _ _ _ (by kernel_rfl) rfl rfl rfl Tryf.laidOut (by kernel_rfl) rfl ⟨rfl, rfl, rfl, rfl, rfl, rfl, rfl⟩ rfl rfl (by kernel_rfl) (by kernel_rfl) Tryf.func3 (by kernel_rfl)
    (of_decide_eq_true (by kernel_rfl)) (of_decide_eq_true (by kernel_rfl)) Tryf.stops.symm rfl Tryf.stopKnobs.symm (by kernel_rfl)
    (by kernel_rfl) (by kernel_rfl) (by kernel_rfl) (by kernel_rfl) (by kernel_rfl) (by kernel_rfl) (by kernel_rfl) (by kernel_rfl) (by kernel_rfl) rfl (by kernel_rfl) rfl rfl
    rfl rfl
    rfl (by kernel_rfl) (by kernel_rfl) (by kernel_rfl) (by decide) (by kernel_rfl)
    (OpenClaim.moreEntering_of (by kernel_rfl) (by kernel_rfl) (by kernel_rfl) (by kernel_rfl) (by kernel_rfl) (by kernel_rfl) (by kernel_rfl) (by kernel_rfl) (by kernel_rfl) (by kernel_rfl))
    ⟨_, WideRow.started_initial, Tryf.quiet _⟩
    (fun os started _ H enc _ => f_lifted os started H enc)
end Go.Proofs.Qxb6613844aFmt
