/-
  DERIVED: THE SHELF's CONTRACTS AT THIS DUMP, IN PLAIN WORDS (tools/lay-plain.mjs out of 'YbadShelf.lean', which tools/lay-shelf.mjs wrote): THE SAME DECLARATIONS UNDER THE SAME NAMES: 'import', 'namespace', 'open', 'def', 'theorem' AND NOTHING ELSE: no command of the shelf's: FOR A HAND-IN. Each laying: the table of numbers ('.._ren') and one theorem, a field a fact of the dump's own or the kernel's comparison; each contract: ONE APPLICATION.
-/
import Derived.Shelf.Bits.Mul64
import Derived.Test.YbulkvsgDoorProg
namespace Go.Proofs
open Go.Shelf
def Ybad.lays264_ren : Go.Shelf.Ren := ⟨fun | 264 => 13 | n => n, fun | 53 => 34 | 46 => 41 | n => n, fun | n => n⟩
theorem Ybad.lays264 : Go.Proofs.Lays.n264 Ybad.prog Ybad.lays264_ren := {
  mixed := by kernel_rfl
  f264 := Ybad.func13.trans (congrArg some (by kernel_rfl))
  t46 := Ybad.underlying41
  a46 := Ybad.isAgg41
  z46 := Ybad.sizeOf41
  v46 := Ybad.zeroValue41
  t53 := Ybad.underlying34
  a53 := Ybad.isAgg34
  z53 := Ybad.sizeOf34
  v53 := Ybad.zeroValue34 }
open Go.RowKit Go.Lib in
theorem Ybad.bits_Mul64 (x y : Nat) (hx : x < 18446744073709551616) (hy : y < 18446744073709551616) (w : World) :
    Calls Ybad.prog 13 #[.int .u64 x, .int .u64 y] w fun e w' => e = .returned (.tuple #[.int .u64 ((x * y / 18446744073709551616 : Nat) : Int), .int .u64 ((x * y % 18446744073709551616 : Nat) : Int)]) ∧ w' = w := Any.bits_Mul64 Ybad.lays264 x y hx hy w
end Go.Proofs
