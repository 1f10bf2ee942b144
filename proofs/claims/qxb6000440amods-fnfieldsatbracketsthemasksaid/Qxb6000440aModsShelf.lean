/-
  The shelf's contract of bytes.Equal at this dump, in plain words (the kit's tools lay-shelf.mjs and lay-plain.mjs wrote it).
-/
import Derived.Shelf.Bytes.SlEqualAll
import Derived.Test.Qxb6000440aModsProg
namespace Go.Proofs
open Go.Shelf
def Trym.laysnb115_ren : Go.Shelf.Ren := ⟨fun | 115 => 43 | n => n, fun | 37 => 22 | 4 => 4 | 9 => 9 | 5 => 5 | n => n, fun | n => n⟩
theorem Trym.laysnb115 : Go.Proofs.Lays.nb115 Trym.prog Trym.laysnb115_ren := {
  mixed := by kernel_rfl
  f115 := Trym.func43.trans (congrArg some (by kernel_rfl))
  t4 := Trym.underlying4
  a4 := Trym.isAgg4
  z4 := Trym.sizeOf4
  v4 := Trym.zeroValue4
  t9 := Trym.underlying9
  a9 := Trym.isAgg9
  z9 := Trym.sizeOf9
  v9 := Trym.zeroValue9
  t37 := Trym.underlying22
  a37 := Trym.isAgg22
  z37 := Trym.sizeOf22
  v37 := Trym.zeroValue22
  t5 := Trym.underlying5
  a5 := Trym.isAgg5
  z5 := Trym.sizeOf5
  v5 := Trym.zeroValue5 }
theorem Trym.bytes_Equal_all (p1 p2 : Option Addr) (n c m d : Nat) (xs ys : List Int) (w : World) (hx : xs.length = n) (hy : ys.length = m) (h1 : Lib.BytesIn w p1 n xs) (h2 : Lib.BytesIn w p2 m ys) :
    Calls Trym.prog 43 #[.slice p1 n c, .slice p2 m d] w fun e w' => e = .returned (.bool (Lib.bytesOf xs == Lib.bytesOf ys)) ∧ w' = w := Any.bytes_Equal_all Trym.laysnb115 p1 p2 n c m d xs ys w hx hy h1 h2
end Go.Proofs
