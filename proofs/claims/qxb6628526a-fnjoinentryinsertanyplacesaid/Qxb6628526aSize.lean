/-
  CONTRACTS OF protowire.SizeVarint (13) AND SizeBytes (11): the answer is only used as a capacity: bounds are enough.
-/
import Derived.Test.Qxb6628526aRows
import Derived.Test.Qxb6628526aShelf
import Derived.WalkKit
import Derived.WalkSpells
import Derived.Laws.Closers25b
namespace Go.Proofs.Qxb6628526a
open Go.RowKit

theorem lead_any (x : Int) (w : World) (hx : 0 ≤ x ∧ x ≤ 18446744073709551615) :
    Calls Try.prog 15 #[.int .u64 x] w fun e w' => (∃ z : Int, e = .returned (.int .i64 z)) ∧ w' = w := by
  refine (Try.bits_LeadingZeros64 x w hx.1 hx.2).mono ?_
  rintro e w' ⟨rfl, rfl⟩
  exact ⟨⟨_, rfl⟩, rfl⟩

theorem or_bounds (v y : Int) : 0 ≤ bits BinOp.or IntKind.u64 v y ∧ bits BinOp.or IntKind.u64 v y ≤ 18446744073709551615 := ⟨bits_lo_u64 _ _ _, bits_hi_u64 _ _ _⟩

set_option maxHeartbeats 400000 in
theorem sizeVarint_any (v : Int) (w : World) :
    Calls Try.prog 13 #[.int .u64 v] w fun e w' => (∃ r : Int, e = .returned (.int .i64 r) ∧ 0 ≤ r ∧ r ≤ 67108864) ∧ w' = w := by
  go_enter Try.func13, Try.ntmps13
  go_wp2_with fail
  refine (lead_any _ _ (or_bounds _ _)).mono ?_
  rintro e w' ⟨⟨z, rfl⟩, rfl⟩
  go_wp2_with fail
  go_ret
  exact ⟨⟨_, rfl, by omega, by omega⟩, rfl⟩

set_option maxHeartbeats 400000 in
theorem sizeBytes_any (n : Nat) (w : World) (hn : n ≤ 1048576) :
    Calls Try.prog 11 #[.int .i64 n] w fun e w' => (∃ r : Int, e = .returned (.int .i64 r) ∧ 0 ≤ r ∧ r ≤ 68157440) ∧ w' = w := by
  go_enter Try.func11, Try.ntmps11
  go_wp2_with fail
  refine (sizeVarint_any _ _).mono ?_
  rintro e w' ⟨⟨r, rfl, hr0, hr1⟩, rfl⟩
  go_wp2_with fail
  go_ret
  exact ⟨⟨_, rfl, by omega, by omega⟩, rfl⟩

end Go.Proofs.Qxb6628526a
