/- The shelf's contract of strings.Join at this dump, in plain words (written by the kit's lay-shelf and lay-plain tools; cut to the one contract that is used). -/
import Derived.Shelf.Strings.Builder1
import Derived.Shelf.Strings.Builder2
import Derived.Shelf.Strings.OnBuilder
import Derived.Test.Qxb6613844aFmtProg
namespace Go.Proofs.Qxb6613844aFmt
open Go.Shelf

def Tryf.lays156_ren : Go.Shelf.Ren := ⟨fun | 156 => 28 | 165 => 29 | 166 => 30 | 169 => 31 | 240 => 32 | 241 => 33 | 276 => 34 | 277 => 35 | n => n, fun | 31 => 39 | 9 => 9 | 3 => 3 | 4 => 4 | 0 => 0 | 20 => 20 | 72 => 79 | 76 => 81 | 70 => 77 | 37 => 63 | 75 => 31 | 127 => 84 | 164 => 85 | 5 => 5 | 80 => 83 | n => n, fun | n => n⟩
theorem Tryf.lays156 : Go.Proofs.Lays.n156 Tryf.prog Tryf.lays156_ren := {
  mixed := by kernel_rfl
  f156 := Tryf.func28.trans (congrArg some (by kernel_rfl))
  f165 := Tryf.func29.trans (congrArg some (by kernel_rfl))
  f166 := Tryf.func30.trans (congrArg some (by kernel_rfl))
  f169 := Tryf.func31.trans (congrArg some (by kernel_rfl))
  f240 := Tryf.func32.trans (congrArg some (by kernel_rfl))
  f241 := Tryf.func33.trans (congrArg some (by kernel_rfl))
  f276 := Tryf.func34.trans (congrArg some (by kernel_rfl))
  f277 := Tryf.func35.trans (congrArg some (by kernel_rfl))
  t0 := Tryf.underlying0
  a0 := Tryf.isAgg0
  z0 := Tryf.sizeOf0
  v0 := Tryf.zeroValue0
  t3 := Tryf.underlying3
  a3 := Tryf.isAgg3
  z3 := Tryf.sizeOf3
  v3 := Tryf.zeroValue3
  t4 := Tryf.underlying4
  a4 := Tryf.isAgg4
  z4 := Tryf.sizeOf4
  v4 := Tryf.zeroValue4
  t9 := Tryf.underlying9
  a9 := Tryf.isAgg9
  z9 := Tryf.sizeOf9
  v9 := Tryf.zeroValue9
  t20 := Tryf.underlying20
  a20 := Tryf.isAgg20
  z20 := Tryf.sizeOf20
  v20 := Tryf.zeroValue20
  t31 := Tryf.underlying39
  a31 := Tryf.isAgg39
  z31 := Tryf.sizeOf39
  v31 := Tryf.zeroValue39
  t37 := Tryf.underlying63
  a37 := Tryf.isAgg63
  z37 := Tryf.sizeOf63
  v37 := Tryf.zeroValue63
  t70 := Tryf.underlying77
  a70 := Tryf.isAgg77
  z70 := Tryf.sizeOf77
  v70 := Tryf.zeroValue77
  t72 := Tryf.underlying79
  a72 := Tryf.isAgg79
  z72 := Tryf.sizeOf79
  v72 := Tryf.zeroValue79
  t75 := Tryf.underlying31
  a75 := Tryf.isAgg31
  z75 := Tryf.sizeOf31
  v75 := Tryf.zeroValue31
  t76 := Tryf.underlying81
  a76 := Tryf.isAgg81
  z76 := Tryf.sizeOf81
  v76 := Tryf.zeroValue81
  t127 := Tryf.underlying84
  a127 := Tryf.isAgg84
  z127 := Tryf.sizeOf84
  v127 := Tryf.zeroValue84
  t164 := Tryf.underlying85
  a164 := Tryf.isAgg85
  z164 := Tryf.sizeOf85
  v164 := Tryf.zeroValue85 }
theorem Tryf.Builder_Extra_156 : Builder.Extra Tryf.prog Tryf.lays156_ren := {
  sizeBuilder := by kernel_rfl
  liesBuilder := by kernel_rfl
  t5 := Tryf.underlying5
  a5 := Tryf.isAgg5
  z5 := Tryf.sizeOf5
  v5 := Tryf.zeroValue5
  infoByte := by kernel_rfl
  cellsByte := by kernel_rfl
  sizeByte := by kernel_rfl
  neB5 := by decide }
open Go.RowKit in
theorem Tryf.strings_Join_none (a : Option Addr) (c : Nat) (sep : ByteArray) (w : World) :
    Calls Tryf.prog 28 #[.slice a 0 c, .string sep] w fun e w' => e = .returned (.string ⟨#[]⟩) ∧ w' = w := Any.strings_Join_none Tryf.lays156 Tryf.Builder_Extra_156 a c sep w
open Go.RowKit in
theorem Tryf.strings_Join (bk o c : Nat) (xs : List ByteArray) (sep : ByteArray) (w : World) (hcells : ∀ (j : Nat) x, xs[j]? = some x → w.cell? ⟨bk, o + j, none⟩ = some (.string x)) (hbk : bk < w.heap.size) (hN : xs.length ≤ 140737488355328) (hcap : xs.length ≤ c) (hlen : (Lib.join (xs.map (·.data.toList)) sep.data.toList).length ≤ 140737488355328) :
    Calls Tryf.prog 28 #[.slice (some ⟨bk, o, none⟩) xs.length c, .string sep] w fun e w' => e = .returned (.string ⟨(Lib.join (xs.map (·.data.toList)) sep.data.toList).toArray⟩) ∧ Below w.heap.size w w' := Any.strings_Join Tryf.lays156 Tryf.Builder_Extra_156 bk o c xs sep w hcells hbk hN hcap hlen
end Go.Proofs.Qxb6613844aFmt
