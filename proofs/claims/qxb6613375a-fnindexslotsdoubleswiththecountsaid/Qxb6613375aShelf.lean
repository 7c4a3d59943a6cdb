/- The shelf's contract of math/bits.Len at this dump, in plain words (written by the kit's lay-shelf and lay-plain tools; cut to the one contract that is used). -/
import Derived.Shelf.Small.Bits
import Derived.Shelf.Strconv.Itoa0
import Derived.Test.Qxb6613375aProg
namespace Go.Proofs.Qxb6613375a
open Go.Shelf
def Try.lays125_ren : Go.Shelf.Ren := ⟨fun | 125 => 12 | 128 => 13 | 129 => 14 | n => n, fun | 46 => 35 | 3 => 3 | 51 => 37 | 53 => 39 | 4 => 4 | 5 => 5 | 9 => 9 | n => n, fun | n => n⟩
theorem Try.lays125 : Go.Proofs.Lays.n125 Try.prog Try.lays125_ren := {
  mixed := by kernel_rfl
  f125 := Try.func12.trans (congrArg some (by kernel_rfl))
  f128 := Try.func13.trans (congrArg some (by kernel_rfl))
  f129 := Try.func14.trans (congrArg some (by kernel_rfl))
  t3 := Try.underlying3
  a3 := Try.isAgg3
  z3 := Try.sizeOf3
  v3 := Try.zeroValue3
  t4 := Try.underlying4
  a4 := Try.isAgg4
  z4 := Try.sizeOf4
  v4 := Try.zeroValue4
  t5 := Try.underlying5
  a5 := Try.isAgg5
  z5 := Try.sizeOf5
  v5 := Try.zeroValue5
  t9 := Try.underlying9
  a9 := Try.isAgg9
  z9 := Try.sizeOf9
  v9 := Try.zeroValue9
  t46 := Try.underlying35
  a46 := Try.isAgg35
  z46 := Try.sizeOf35
  v46 := Try.zeroValue35
  t51 := Try.underlying37
  a51 := Try.isAgg37
  z51 := Try.sizeOf37
  v51 := Try.zeroValue37
  t53 := Try.underlying39
  a53 := Try.isAgg39
  z53 := Try.sizeOf39
  v53 := Try.zeroValue39 }
theorem Try.bits_Len (x : Int) (w : World) (h0 : 0 ≤ x) (h1 : x ≤ 18446744073709551615) :
    Calls Try.prog 12 #[.int .u64 x] w fun e w' => e = .returned (.int .i64 (Lib.bitLen x.toNat)) ∧ w' = w := Any.bits_Len Try.lays125 x w h0 h1
end Go.Proofs.Qxb6613375a
