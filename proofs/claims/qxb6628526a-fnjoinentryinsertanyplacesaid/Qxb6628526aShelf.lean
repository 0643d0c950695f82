/-
  THE SHELF's CONTRACT OF math/bits.LeadingZeros64 AT THIS PROGRAM, as the kit's lay-shelf.mjs and lay-plain.mjs write it.
-/
import Derived.Shelf.Small.Bits
import Derived.Test.Qxb6628526aProg
namespace Go.Proofs
open Go.Shelf
def Try.lays134_ren : Go.Shelf.Ren := ⟨fun | 134 => 15 | 129 => 16 | n => n, fun | 53 => 27 | 3 => 3 | 4 => 4 | 46 => 33 | 5 => 5 | 9 => 9 | n => n, fun | n => n⟩
theorem Try.lays134 : Go.Proofs.Lays.n134 Try.prog Try.lays134_ren := {
  mixed := by kernel_rfl
  f129 := Try.func16.trans (congrArg some (by kernel_rfl))
  f134 := Try.func15.trans (congrArg some (by kernel_rfl))
  t3 := Try.underlying3
  a3 := Try.isAgg3
  z3 := Try.sizeOf3
  v3 := Try.zeroValue3
  t4 := Try.underlying4
  a4 := Try.isAgg4
  z4 := Try.sizeOf4
  v4 := Try.zeroValue4
  t5 := Try.underlying5
  a5 := Try.isAgg5
  z5 := Try.sizeOf5
  v5 := Try.zeroValue5
  t9 := Try.underlying9
  a9 := Try.isAgg9
  z9 := Try.sizeOf9
  v9 := Try.zeroValue9
  t46 := Try.underlying33
  a46 := Try.isAgg33
  z46 := Try.sizeOf33
  v46 := Try.zeroValue33
  t53 := Try.underlying27
  a53 := Try.isAgg27
  z53 := Try.sizeOf27
  v53 := Try.zeroValue27 }
/-- bits.LeadingZeros64 off the kit's shelf. -/
theorem Try.bits_LeadingZeros64 (x : Int) (w : World) (h0 : 0 ≤ x) (h1 : x ≤ 18446744073709551615) :
    Calls Try.prog 15 #[.int .u64 x] w fun e w' => e = .returned (.int .i64 (64 - (Lib.bitLen x.toNat : Int))) ∧ w' = w := Any.bits_LeadingZeros64 Try.lays134 x w h0 h1
end Go.Proofs
