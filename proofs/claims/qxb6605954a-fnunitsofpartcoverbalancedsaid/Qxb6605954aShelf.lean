/-
  DERIVED: THE SHELF's CONTRACTS AT THIS DUMP, IN PLAIN WORDS (tools/lay-plain.mjs out of 'TryShelf.lean', which tools/lay-shelf.mjs wrote): THE SAME DECLARATIONS UNDER THE SAME NAMES: 'import', 'namespace', 'open', 'def', 'theorem' AND NOTHING ELSE: no command of the shelf's: FOR A HAND-IN. Each laying: the table of numbers ('.._ren') and one theorem, a field a fact of the dump's own or the kernel's comparison; each contract: ONE APPLICATION.
-/
import Derived.Shelf.Small.Bits
import Derived.Shelf.Strconv.Itoa0
import Derived.Shelf.Bits.Mul64
import Derived.Test.Qxb6605954aProg
namespace Go.Proofs
open Go.Shelf
def Try.lays134_ren : Go.Shelf.Ren := ⟨fun | 134 => 49 | 129 => 50 | n => n, fun | 53 => 40 | 3 => 3 | 4 => 4 | 46 => 96 | 5 => 5 | 9 => 9 | n => n, fun | n => n⟩
theorem Try.lays134 : Go.Proofs.Lays.n134 Try.prog Try.lays134_ren := {
  mixed := by kernel_rfl
  f129 := Try.func50.trans (congrArg some (by kernel_rfl))
  f134 := Try.func49.trans (congrArg some (by kernel_rfl))
  t3 := Try.underlying3
  a3 := Try.isAgg3
  z3 := Try.sizeOf3
  v3 := Try.zeroValue3
  t4 := Try.underlying4
  a4 := Try.isAgg4
  z4 := Try.sizeOf4
  v4 := Try.zeroValue4
  t5 := Try.underlying5
  a5 := Try.isAgg5
  z5 := Try.sizeOf5
  v5 := Try.zeroValue5
  t9 := Try.underlying9
  a9 := Try.isAgg9
  z9 := Try.sizeOf9
  v9 := Try.zeroValue9
  t46 := Try.underlying96
  a46 := Try.isAgg96
  z46 := Try.sizeOf96
  v46 := Try.zeroValue96
  t53 := Try.underlying40
  a53 := Try.isAgg40
  z53 := Try.sizeOf40
  v53 := Try.zeroValue40 }
/-- bits.LeadingZeros64: "LeadingZeros64 returns the number of leading zero bits in x; the result is 64 for x == 0.": IT RETURNS '64 - Lib.bitLen x'; the world is as it was. ITS CALLEE bits.Len64 IS MET BY ITS OWN CONTRACT OFF THE SHELF (lay that first): entered in place it sends the kernel out of memory. (LAID: no walk: one application.) -/
theorem Try.bits_LeadingZeros64 (x : Int) (w : World) (h0 : 0 ≤ x) (h1 : x ≤ 18446744073709551615) :
    Calls Try.prog 49 #[.int .u64 x] w fun e w' => e = .returned (.int .i64 (64 - (Lib.bitLen x.toNat : Int))) ∧ w' = w := Any.bits_LeadingZeros64 Try.lays134 x w h0 h1
def Try.lays129_ren : Go.Shelf.Ren := ⟨fun | 129 => 50 | n => n, fun | 53 => 40 | 3 => 3 | 4 => 4 | 46 => 96 | 5 => 5 | 9 => 9 | n => n, fun | n => n⟩
theorem Try.lays129 : Go.Proofs.Lays.n129 Try.prog Try.lays129_ren := {
  mixed := by kernel_rfl
  f129 := Try.func50.trans (congrArg some (by kernel_rfl))
  t3 := Try.underlying3
  a3 := Try.isAgg3
  z3 := Try.sizeOf3
  v3 := Try.zeroValue3
  t4 := Try.underlying4
  a4 := Try.isAgg4
  z4 := Try.sizeOf4
  v4 := Try.zeroValue4
  t5 := Try.underlying5
  a5 := Try.isAgg5
  z5 := Try.sizeOf5
  v5 := Try.zeroValue5
  t9 := Try.underlying9
  a9 := Try.isAgg9
  z9 := Try.sizeOf9
  v9 := Try.zeroValue9
  t46 := Try.underlying96
  a46 := Try.isAgg96
  z46 := Try.sizeOf96
  v46 := Try.zeroValue96
  t53 := Try.underlying40
  a53 := Try.isAgg40
  z53 := Try.sizeOf40
  v53 := Try.zeroValue40 }
/-- bits.Len64: "Len64 returns the minimum number of bits required to represent x; the result is 0 for x == 0.": IT RETURNS 'Lib.bitLen x'; the world is as it was. ('h0', 'h1': x is a uint64.) (LAID: no walk: one application.) -/
theorem Try.bits_Len64 (x : Int) (w : World) (h0 : 0 ≤ x) (h1 : x ≤ 18446744073709551615) :
    Calls Try.prog 50 #[.int .u64 x] w fun e w' => e = .returned (.int .i64 (Lib.bitLen x.toNat)) ∧ w' = w := Any.bits_Len64 Try.lays129 x w h0 h1
def Try.lays264_ren : Go.Shelf.Ren := ⟨fun | 264 => 41 | n => n, fun | 53 => 40 | 46 => 96 | n => n, fun | n => n⟩
theorem Try.lays264 : Go.Proofs.Lays.n264 Try.prog Try.lays264_ren := {
  mixed := by kernel_rfl
  f264 := Try.func41.trans (congrArg some (by kernel_rfl))
  t46 := Try.underlying96
  a46 := Try.isAgg96
  z46 := Try.sizeOf96
  v46 := Try.zeroValue96
  t53 := Try.underlying40
  a53 := Try.isAgg40
  z53 := Try.sizeOf40
  v53 := Try.zeroValue40 }
open Go.RowKit Go.Lib in
theorem Try.bits_Mul64 (x y : Nat) (hx : x < 18446744073709551616) (hy : y < 18446744073709551616) (w : World) :
    Calls Try.prog 41 #[.int .u64 x, .int .u64 y] w fun e w' => e = .returned (.tuple #[.int .u64 ((x * y / 18446744073709551616 : Nat) : Int), .int .u64 ((x * y % 18446744073709551616 : Nat) : Int)]) ∧ w' = w := Any.bits_Mul64 Try.lays264 x y hx hy w
end Go.Proofs
