/-
  DERIVED: THE SHELF's CONTRACTS AT THIS DUMP, IN PLAIN WORDS (tools/lay-plain.mjs out of 'YbafShelf.lean', which tools/lay-shelf.mjs wrote): THE SAME DECLARATIONS UNDER THE SAME NAMES: 'import', 'namespace', 'open', 'def', 'theorem' AND NOTHING ELSE: no command of the shelf's: FOR A HAND-IN. Each laying: the table of numbers ('.._ren') and one theorem, a field a fact of the dump's own or the kernel's comparison; each contract: ONE APPLICATION.
-/
import Derived.Shelf.Bits.Mul64
import Derived.Test.YbulkbqckFmtProg
namespace Go.Proofs.YbulkbqckFmt
open Go.Shelf
def Ybaf.lays264_ren : Go.Shelf.Ren := ⟨fun | 264 => 10 | n => n, fun | 53 => 23 | 46 => 44 | n => n, fun | n => n⟩
theorem Ybaf.lays264 : Go.Proofs.Lays.n264 Ybaf.prog Ybaf.lays264_ren := {
  mixed := by kernel_rfl
  f264 := Ybaf.func10.trans (congrArg some (by kernel_rfl))
  t46 := Ybaf.underlying44
  a46 := Ybaf.isAgg44
  z46 := Ybaf.sizeOf44
  v46 := Ybaf.zeroValue44
  t53 := Ybaf.underlying23
  a53 := Ybaf.isAgg23
  z53 := Ybaf.sizeOf23
  v53 := Ybaf.zeroValue23 }
open Go.RowKit Go.Lib in
theorem Ybaf.bits_Mul64 (x y : Nat) (hx : x < 18446744073709551616) (hy : y < 18446744073709551616) (w : World) :
    Calls Ybaf.prog 10 #[.int .u64 x, .int .u64 y] w fun e w' => e = .returned (.tuple #[.int .u64 ((x * y / 18446744073709551616 : Nat) : Int), .int .u64 ((x * y % 18446744073709551616 : Nat) : Int)]) ∧ w' = w := Any.bits_Mul64 Ybaf.lays264 x y hx hy w
end Go.Proofs.YbulkbqckFmt
