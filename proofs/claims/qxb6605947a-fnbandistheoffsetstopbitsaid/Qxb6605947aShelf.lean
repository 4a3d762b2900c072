/-
  math/bits.Len64 (6): the shelf's contract laid at this dump, as the kit's two tools write it (lay-shelf.mjs, lay-plain.mjs).
-/
import Derived.Shelf.Strconv.Itoa0
import Derived.Test.Qxb6605947aProg
namespace Go.Proofs
open Go.Shelf
def Try.lays129_ren : Go.Shelf.Ren := ⟨fun | 129 => 6 | n => n, fun | 53 => 22 | 3 => 3 | 4 => 4 | 46 => 25 | 5 => 5 | 9 => 9 | n => n, fun | n => n⟩
theorem Try.lays129 : Go.Proofs.Lays.n129 Try.prog Try.lays129_ren := {
  mixed := by kernel_rfl
  f129 := Try.func6.trans (congrArg some (by kernel_rfl))
  t3 := Try.underlying3
  a3 := Try.isAgg3
  z3 := Try.sizeOf3
  v3 := Try.zeroValue3
  t4 := Try.underlying4
  a4 := Try.isAgg4
  z4 := Try.sizeOf4
  v4 := Try.zeroValue4
  t5 := Try.underlying5
  a5 := Try.isAgg5
  z5 := Try.sizeOf5
  v5 := Try.zeroValue5
  t9 := Try.underlying9
  a9 := Try.isAgg9
  z9 := Try.sizeOf9
  v9 := Try.zeroValue9
  t46 := Try.underlying25
  a46 := Try.isAgg25
  z46 := Try.sizeOf25
  v46 := Try.zeroValue25
  t53 := Try.underlying22
  a53 := Try.isAgg22
  z53 := Try.sizeOf22
  v53 := Try.zeroValue22 }
theorem Try.bits_Len64 (x : Int) (w : World) (h0 : 0 ≤ x) (h1 : x ≤ 18446744073709551615) :
    Calls Try.prog 6 #[.int .u64 x] w fun e w' => e = .returned (.int .i64 (Lib.bitLen x.toNat)) ∧ w' = w := Any.bits_Len64 Try.lays129 x w h0 h1
end Go.Proofs
