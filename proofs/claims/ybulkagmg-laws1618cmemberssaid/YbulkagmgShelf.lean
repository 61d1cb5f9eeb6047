/-
  DERIVED: THE SHELF's CONTRACTS AT THIS DUMP, IN PLAIN WORDS (tools/lay-plain.mjs out of 'YbaShelf.lean', which tools/lay-shelf.mjs wrote): THE SAME DECLARATIONS UNDER THE SAME NAMES: 'import', 'namespace', 'open', 'def', 'theorem' AND NOTHING ELSE: no command of the shelf's: FOR A HAND-IN. Each laying: the table of numbers ('.._ren') and one theorem, a field a fact of the dump's own or the kernel's comparison; each contract: ONE APPLICATION.
-/
import Derived.Shelf.Small.Bits
import Derived.Test.YbulkagmgProg
namespace Go.Proofs.Ybulkagmg
open Go.Shelf
def Yba.lays135_ren : Go.Shelf.Ren := ⟨fun | 135 => 15 | n => n, fun | 5 => 5 | 3 => 3 | 9 => 9 | n => n, fun | n => n⟩
theorem Yba.lays135 : Go.Proofs.Lays.n135 Yba.prog Yba.lays135_ren := {
  mixed := by kernel_rfl
  f135 := Yba.func15.trans (congrArg some (by kernel_rfl))
  t3 := Yba.underlying3
  a3 := Yba.isAgg3
  z3 := Yba.sizeOf3
  v3 := Yba.zeroValue3
  t5 := Yba.underlying5
  a5 := Yba.isAgg5
  z5 := Yba.sizeOf5
  v5 := Yba.zeroValue5
  t9 := Yba.underlying9
  a9 := Yba.isAgg9
  z9 := Yba.sizeOf9
  v9 := Yba.zeroValue9 }
/-- bits.OnesCount8: "OnesCount8 returns the number of one bits ("population count") in x.": IT RETURNS 'Lib.onesCount x'; the world is as it was. ('h0', 'h1': x is a uint8.) (LAID: no walk: one application.) -/
theorem Yba.bits_OnesCount8 (x : Int) (w : World) (h0 : 0 ≤ x) (h1 : x ≤ 255) :
    Calls Yba.prog 15 #[.int .u8 x] w fun e w' => e = .returned (.int .i64 (Lib.onesCount x.toNat)) ∧ w' = w := Any.bits_OnesCount8 Yba.lays135 x w h0 h1
end Go.Proofs.Ybulkagmg
