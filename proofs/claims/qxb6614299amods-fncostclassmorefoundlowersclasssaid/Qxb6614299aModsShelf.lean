/-
  The shelf's contract of math/bits.Len at this dump, in plain words (the kit's tools lay-shelf.mjs and lay-plain.mjs wrote it).
-/
import Derived.Shelf.Small.Bits
import Derived.Test.Qxb6614299aModsProg
namespace Go.Proofs
open Go.Shelf
def Trym.lays125_ren : Go.Shelf.Ren := ⟨fun | 125 => 16 | 128 => 17 | 129 => 18 | n => n, fun | 46 => 45 | 3 => 3 | 51 => 47 | 53 => 49 | 4 => 4 | 5 => 5 | 9 => 9 | n => n, fun | n => n⟩
theorem Trym.lays125 : Go.Proofs.Lays.n125 Trym.prog Trym.lays125_ren := {
  mixed := by kernel_rfl
  f125 := Trym.func16.trans (congrArg some (by kernel_rfl))
  f128 := Trym.func17.trans (congrArg some (by kernel_rfl))
  f129 := Trym.func18.trans (congrArg some (by kernel_rfl))
  t3 := Trym.underlying3
  a3 := Trym.isAgg3
  z3 := Trym.sizeOf3
  v3 := Trym.zeroValue3
  t4 := Trym.underlying4
  a4 := Trym.isAgg4
  z4 := Trym.sizeOf4
  v4 := Trym.zeroValue4
  t5 := Trym.underlying5
  a5 := Trym.isAgg5
  z5 := Trym.sizeOf5
  v5 := Trym.zeroValue5
  t9 := Trym.underlying9
  a9 := Trym.isAgg9
  z9 := Trym.sizeOf9
  v9 := Trym.zeroValue9
  t46 := Trym.underlying45
  a46 := Trym.isAgg45
  z46 := Trym.sizeOf45
  v46 := Trym.zeroValue45
  t51 := Trym.underlying47
  a51 := Trym.isAgg47
  z51 := Trym.sizeOf47
  v51 := Trym.zeroValue47
  t53 := Trym.underlying49
  a53 := Trym.isAgg49
  z53 := Trym.sizeOf49
  v53 := Trym.zeroValue49 }
theorem Trym.bits_Len (x : Int) (w : World) (h0 : 0 ≤ x) (h1 : x ≤ 18446744073709551615) :
    Calls Trym.prog 16 #[.int .u64 x] w fun e w' => e = .returned (.int .i64 (Lib.bitLen x.toNat)) ∧ w' = w := Any.bits_Len Trym.lays125 x w h0 h1
end Go.Proofs
