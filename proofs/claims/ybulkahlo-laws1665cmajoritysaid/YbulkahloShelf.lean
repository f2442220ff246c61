/-
  THE SHELF's CONTRACT OF math/bits.Len AT THIS DUMP, in plain words (written by the kit's lay-shelf and lay-plain for this program; cut to what the proof uses).
-/
import Derived.Shelf.Small.Bits
import Derived.Shelf.Strconv.Itoa0
import Derived.Test.YbulkahloProg
namespace Go.Proofs
open Go.Shelf
def Yba.lays125_ren : Go.Shelf.Ren := ⟨fun | 125 => 16 | 128 => 26 | 129 => 27 | n => n, fun | 46 => 64 | 3 => 3 | 51 => 75 | 53 => 22 | 4 => 4 | 5 => 5 | 9 => 9 | n => n, fun | n => n⟩
theorem Yba.lays125 : Go.Proofs.Lays.n125 Yba.prog Yba.lays125_ren := {
  mixed := by kernel_rfl
  f125 := Yba.func16.trans (congrArg some (by kernel_rfl))
  f128 := Yba.func26.trans (congrArg some (by kernel_rfl))
  f129 := Yba.func27.trans (congrArg some (by kernel_rfl))
  t3 := Yba.underlying3
  a3 := Yba.isAgg3
  z3 := Yba.sizeOf3
  v3 := Yba.zeroValue3
  t4 := Yba.underlying4
  a4 := Yba.isAgg4
  z4 := Yba.sizeOf4
  v4 := Yba.zeroValue4
  t5 := Yba.underlying5
  a5 := Yba.isAgg5
  z5 := Yba.sizeOf5
  v5 := Yba.zeroValue5
  t9 := Yba.underlying9
  a9 := Yba.isAgg9
  z9 := Yba.sizeOf9
  v9 := Yba.zeroValue9
  t46 := Yba.underlying64
  a46 := Yba.isAgg64
  z46 := Yba.sizeOf64
  v46 := Yba.zeroValue64
  t51 := Yba.underlying75
  a51 := Yba.isAgg75
  z51 := Yba.sizeOf75
  v51 := Yba.zeroValue75
  t53 := Yba.underlying22
  a53 := Yba.isAgg22
  z53 := Yba.sizeOf22
  v53 := Yba.zeroValue22 }
theorem Yba.bits_Len (x : Int) (w : World) (h0 : 0 ≤ x) (h1 : x ≤ 18446744073709551615) :
    Calls Yba.prog 16 #[.int .u64 x] w fun e w' => e = .returned (.int .i64 (Lib.bitLen x.toNat)) ∧ w' = w := Any.bits_Len Yba.lays125 x w h0 h1
end Go.Proofs
