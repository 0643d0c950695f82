/-
  CONTRACTS OF ZZnull (12), ZZint (13), ZZtext (14), mkValueB1 (6); and of mkValueB1(..).String() as one plain function 'vstr'.
-/
import Derived.Test.Qxb6628612aDoorString
namespace Go.Proofs.Qxb6628612aDoor
open Go.RowKit Plain

theorem zznull_any (w : World) : Calls Tryd.prog 12 #[] w fun e w' => e = .returned (.agg #[.int .i64 0, .string ⟨#[]⟩, .int .u8 0]) ∧ w' = w.alloc (.cells #[.int .i64 0, .string ⟨#[]⟩, .int .u8 0] 25) := by
  go_enter Tryd.func12, Tryd.ntmps12
  go_wp2
  exact bodyPost_ret (v := .agg #[.int .i64 0, .string ⟨#[]⟩, .int .u8 0]) (by simp [results, Tryd.results12, go_sem]) rfl ⟨rfl, rfl⟩
theorem zzint_any (n : Int) (w : World) : Calls Tryd.prog 13 #[.int .i64 n] w fun e w' => e = .returned (.agg #[.int .i64 n, .string ⟨#[]⟩, .int .u8 1]) ∧ w' = w.alloc (.cells #[.int .i64 n, .string ⟨#[]⟩, .int .u8 1] 25) := by
  go_enter Tryd.func13, Tryd.ntmps13
  go_wp2
  exact bodyPost_ret (v := .agg #[.int .i64 n, .string ⟨#[]⟩, .int .u8 1]) (by simp [results, Tryd.results13, go_sem]) rfl ⟨rfl, rfl⟩
theorem zztext_any (s : ByteArray) (w : World) : Calls Tryd.prog 14 #[.string s] w fun e w' => e = .returned (.agg #[.int .i64 0, .string s, .int .u8 2]) ∧ w' = w.alloc (.cells #[.int .i64 0, .string s, .int .u8 2] 25) := by
  go_enter Tryd.func14, Tryd.ntmps14
  go_wp2
  exact bodyPost_ret (v := .agg #[.int .i64 0, .string s, .int .u8 2]) (by simp [results, Tryd.results14, go_sem]) rfl ⟨rfl, rfl⟩

theorem mk_0 (n : Int) (s : ByteArray) (w : World) : Calls Tryd.prog 6 #[.int .u8 0, .int .i64 n, .string s] w fun e w' => e = .returned (.agg #[.int .i64 0, .string ⟨#[]⟩, .int .u8 0]) ∧ Below w.heap.size w w' := by
  go_enter Tryd.func6, Tryd.ntmps6
  go_wp2_with fail
  refine (zznull_any _).mono ?_
  rintro e w1 ⟨rfl, rfl⟩
  go_wp2_with fail
  exact bodyPost_ret (v := .agg #[.int .i64 0, .string ⟨#[]⟩, .int .u8 0]) (by simp [results, Tryd.results6, go_sem]) rfl ⟨rfl, ((Below.refl _ _).alloc (Nat.le_refl _) _).alloc (by simp) _⟩

theorem mk_1 (n : Int) (s : ByteArray) (w : World) : Calls Tryd.prog 6 #[.int .u8 1, .int .i64 n, .string s] w fun e w' => e = .returned (.agg #[.int .i64 n, .string ⟨#[]⟩, .int .u8 1]) ∧ Below w.heap.size w w' := by
  go_enter Tryd.func6, Tryd.ntmps6
  go_wp2_with fail
  refine (zzint_any _ _).mono ?_
  rintro e w1 ⟨rfl, rfl⟩
  go_wp2_with fail
  exact bodyPost_ret (v := .agg #[.int .i64 n, .string ⟨#[]⟩, .int .u8 1]) (by simp [results, Tryd.results6, go_sem]) rfl ⟨rfl, ((Below.refl _ _).alloc (Nat.le_refl _) _).alloc (by simp) _⟩

theorem mk_2 (n : Int) (s : ByteArray) (w : World) : Calls Tryd.prog 6 #[.int .u8 2, .int .i64 n, .string s] w fun e w' => e = .returned (.agg #[.int .i64 0, .string s, .int .u8 2]) ∧ Below w.heap.size w w' := by
  go_enter Tryd.func6, Tryd.ntmps6
  go_wp2_with fail
  refine (zztext_any _ _).mono ?_
  rintro e w1 ⟨rfl, rfl⟩
  go_wp2_with fail
  exact bodyPost_ret (v := .agg #[.int .i64 0, .string s, .int .u8 2]) (by simp [results, Tryd.results6, go_sem]) rfl ⟨rfl, ((Below.refl _ _).alloc (Nat.le_refl _) _).alloc (by simp) _⟩

end Go.Proofs.Qxb6628612aDoor
