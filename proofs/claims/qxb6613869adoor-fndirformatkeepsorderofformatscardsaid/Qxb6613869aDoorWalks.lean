/- The road of FnDirFormatKeepsOrderOfFormats. -/
import Derived.Test.Qxb6613869aDoorProg
import Derived.WalkKit
import Derived.WalkSpells
import Derived.WalkLawsBesides
import Derived.Outline
import Derived.Deep.RegionWith
namespace Go.Proofs.Qxb6613869aDoor
open Go.RowKit

set_option maxRecDepth 100000 in
theorem itoa14 (w : World) : Calls Tryd.prog 7 #[.int .i64 14] w fun e w' => e = .returned (.string ⟨#[49, 52]⟩) ∧ w = w' := by
  go_enter Tryd.func7, Tryd.ntmps7
  go_wp2
  go_ret
  exact ⟨rfl, rfl⟩
set_option maxRecDepth 100000 in
theorem itoa3 (w : World) : Calls Tryd.prog 7 #[.int .i64 3] w fun e w' => e = .returned (.string ⟨#[51]⟩) ∧ w = w' := by
  go_enter Tryd.func7, Tryd.ntmps7
  go_wp2
  go_ret
  exact ⟨rfl, rfl⟩

/-- What DirFormat gives. -/
def dir (f : ByteArray) : ByteArray := if f.toList.isEmpty = true then ⟨#[49, 52]⟩ ++ ⟨#[32]⟩ ++ ⟨#[51]⟩ else ⟨#[49, 52]⟩ ++ ⟨#[32]⟩ ++ ⟨#[51]⟩ ++ (⟨#[32]⟩ ++ f)

theorem ret_str {a b : ByteArray} (h : a = b) : Ending.returned (.string a) = .returned (.string b) := by rw [h]

theorem dir_no {f : ByteArray} (h : (!f.toList.isEmpty) = true) : ⟨#[49, 52]⟩ ++ ⟨#[32]⟩ ++ ⟨#[51]⟩ ++ (⟨#[32]⟩ ++ f) = dir f := by
  have h' : ¬ f.toList.isEmpty = true := by simpa using h
  unfold dir
  rw [if_neg h']
theorem dir_yes {f : ByteArray} (h : (!f.toList.isEmpty) = false) : ⟨#[49, 52]⟩ ++ ⟨#[32]⟩ ++ ⟨#[51]⟩ = dir f := by
  have h' : f.toList.isEmpty = true := by simpa using h
  unfold dir
  rw [if_pos h']

theorem name_any (f : ByteArray) (w : World) (hf : f.size ≤ 1048576) : Calls Tryd.prog 6 #[.int .i64 14, .string f] w fun e w' => e = .returned (.string (dir f)) ∧ w = w' := by
  go_enter Tryd.func6, Tryd.ntmps6
  go_wp2_with (first | (go_at_call_of 7 (Value.int IntKind.i64 14); refine (itoa14 _).mono ?_; rintro e w' ⟨rfl, rfl⟩) | (go_at_call_of 7 (Value.int IntKind.i64 3); refine (itoa3 _).mono ?_; rintro e w' ⟨rfl, rfl⟩))
  · go_ret
    exact ⟨ret_str (dir_no ‹_›), rfl⟩
  · go_ret
    exact ⟨ret_str (dir_yes ‹_›), rfl⟩

theorem dir_any (f : ByteArray) (w : World) (hf : f.size ≤ 1048576) : Calls Tryd.prog 5 #[.string f] w fun e w' => e = .returned (.string (dir f)) ∧ w = w' := by
  go_enter Tryd.func5, Tryd.ntmps5
  go_wp2_with (go_at_call 6; refine (name_any _ _ hf).mono ?_; rintro e w' ⟨rfl, rfl⟩)
  go_ret
  exact ⟨rfl, rfl⟩

theorem zz_any (a0 a1 : ByteArray) (w : World) (w0 : a0.size ≤ 9223372036854775807) (w1 : a1.size ≤ 9223372036854775807) :
    Calls Tryd.prog 4 #[.string a0, .string a1] w fun e w' => ∃ b : Bool, e = .returned (.bool b) ∧ w = w' ∧ (b = true → a0.size + a1.size ≤ 1048576) := by
  go_enter Tryd.func4, Tryd.ntmps4
  go_wp2
  all_goals (go_ret; exact ⟨_, rfl, rfl, by intro h; first | (cases h; done) | omega⟩)

/-! ### The plain law -/
theorem dir_list (f : ByteArray) : (dir f).toList = [49, 52, 32, 51] ++ (if f.toList.isEmpty = true then [] else 32 :: f.toList) := by
  unfold dir
  split
  · simp [ByteArray.toList_eq, ByteArray.data_append]
  · simp [ByteArray.toList_eq, ByteArray.data_append]

theorem less_cons (a : UInt8) (x y : List UInt8) : Op.bytesLess (a :: x) (a :: y) = Op.bytesLess x y := by
  simp [Op.bytesLess]

theorem dir_less (f g : ByteArray) : Op.bytesLess (dir f).toList (dir g).toList = Op.bytesLess f.toList g.toList := by
  rw [dir_list, dir_list]
  generalize f.toList = x
  generalize g.toList = y
  simp only [List.cons_append, List.nil_append, less_cons]
  cases x with
  | nil =>
    cases y with
    | nil => rfl
    | cons b y => simp [Op.bytesLess]
  | cons a x =>
    cases y with
    | nil => simp [Op.bytesLess]
    | cons b y => simp [less_cons]

theorem dir_eq (f g : ByteArray) : ((dir f).toList == (dir g).toList) = (f.toList == g.toList) := by
  rw [dir_list, dir_list]
  generalize f.toList = x
  generalize g.toList = y
  cases x <;> cases y <;> simp

theorem dir_size (f : ByteArray) : (dir f).size = if f.toList.isEmpty = true then 4 else 5 + f.size := by
  unfold dir
  split
  · rfl
  · simp only [ByteArray.size_append]
    show 2 + 1 + 1 + (1 + f.size) = _
    omega

theorem walk (a0 a1 : ByteArray) (w0 : a0.size ≤ maxLen) (w1 : a1.size ≤ maxLen) (w : World) :
    Calls Tryd.prog 3 #[.string a0, .string a1] w fun e w' => e = .returned (.bool true) ∧ w = w' := by
  unfold maxLen at w0 w1
  have hl := dir_less a0 a1
  have he := dir_eq a0 a1
  go_enter Tryd.func3, Tryd.ntmps3
  go_wp2_with fail
  refine (zz_any a0 a1 _ w0 w1).mono ?_
  rintro e w' ⟨b, rfl, rfl, hb⟩
  cases b with
  | false =>
    go_wp2
    go_ret
    exact ⟨rfl, rfl⟩
  | true =>
    have hs := hb rfl
    clear hb
    have s0 : a0.size ≤ 1048576 := by omega
    have s1 : a1.size ≤ 1048576 := by omega
    by_cases c0 : a0.size ≤ 524288
    · by_cases c1 : a1.size ≤ 524288
      · by_cases hz : a0.toList.isEmpty = true
        · have hd : (dir a0).size = 4 := by rw [dir_size, if_pos hz]
          go_wp2_with (first | (go_at_call_of 5 (Value.string a0); refine (dir_any a0 _ s0).mono ?_; rintro e w' ⟨rfl, rfl⟩) | (go_at_call_of 5 (Value.string a1); refine (dir_any a1 _ s1).mono ?_; rintro e w' ⟨rfl, rfl⟩))
          go_ret
          exact ⟨rfl, rfl⟩
        · have hd : (dir a0).size = 5 + a0.size := by rw [dir_size, if_neg hz]
          have hz' : a0.toList.isEmpty = false := by simpa using hz
          clear hz
          go_wp2_with (first | (go_at_call_of 5 (Value.string a0); refine (dir_any a0 _ s0).mono ?_; rintro e w' ⟨rfl, rfl⟩) | (go_at_call_of 5 (Value.string a1); refine (dir_any a1 _ s1).mono ?_; rintro e w' ⟨rfl, rfl⟩))
          go_ret
          exact ⟨rfl, rfl⟩
      · go_wp2
        go_ret
        exact ⟨rfl, rfl⟩
    · go_wp2
      go_ret
      exact ⟨rfl, rfl⟩
end Go.Proofs.Qxb6613869aDoor
