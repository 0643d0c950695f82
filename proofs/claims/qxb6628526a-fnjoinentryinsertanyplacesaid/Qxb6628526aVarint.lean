/-
  CONTRACTS OF protowire.AppendVarint (14), AppendBytes (12), over a slice that the run itself has made.
-/
import Derived.Test.Qxb6628526aLaws
import Derived.Laws.Bits64b
namespace Go.Proofs.Qxb6628526a
open Go.RowKit Go.WideShapes Plain

theorem or128 : ∀ y : Fin 128, y.val ||| 128 = y.val + 128 := by decide
/-- 'byte(v&0x7f | 0x80)' -/
theorem low_group (x : Nat) (hx : x < 18446744073709551616) : bits BinOp.or IntKind.u64 (bits BinOp.and IntKind.u64 (x : Int) 127) 128 % 256 = (x : Int) % 128 + 128 := by
  have h1 := bits_and_u64_nat x 127 hx (by decide)
  have h3 : x &&& 127 = x % 128 := Nat.and_two_pow_sub_one_eq_mod x 7
  rw [h3] at h1
  have h2 := bits_or_u64_nat (x % 128) 128 (by omega) (by decide)
  have h4 := or128 ⟨x % 128, by omega⟩
  simp only at h4
  rw [h4] at h2
  have e1 : ((127 : Nat) : Int) = 127 := rfl
  have e2 : ((128 : Nat) : Int) = 128 := rfl
  rw [e1] at h1
  rw [e2] at h2
  rw [h1, h2]
  omega

set_option maxHeartbeats 400000 in
set_option maxRecDepth 100000 in
theorem appendVarint_1 (x : Nat) (v : Value) (zs : List Int) (base : Nat) (w : World) (hx : x < 128) (hown : Own w base v zs) (hb : base ≤ w.heap.size) (hz : zs.length ≤ 35184372088832) :
    Calls Try.prog 14 #[v, .int .u64 x] w fun e w' => ∃ v', e = .returned v' ∧ Own w' base v' (zs ++ vi 9 x) ∧ Below base w w' := by
  rw [vi_small _ _ hx]
  go_enter Try.func14, Try.ntmps14
  go_wp2_with (at_builtin; refine wpList_append_bytes _ rfl (.tmp 56) (.tmp 59) rfl base _ _ rfl (hown.alloc _) _ _ _ [(x : Int)] rfl (bts_new _ _ _ _ rfl rfl) (fun h => by cases h) ?_ ?_ ?_)
  · simp; omega
  · simp; omega
  · intro v' w1 ho hbel
    go_wp2
    go_ret
    exact ⟨v', rfl, ho, ((Below.refl _ _).alloc hb _).trans hbel⟩

set_option maxHeartbeats 400000 in
set_option maxRecDepth 100000 in
theorem appendVarint_2 (x : Nat) (v : Value) (zs : List Int) (base : Nat) (w : World) (hx0 : 128 ≤ x) (hx : x < 16384) (hown : Own w base v zs) (hb : base ≤ w.heap.size) (hz : zs.length ≤ 35184372088832) :
    Calls Try.prog 14 #[v, .int .u64 x] w fun e w' => ∃ v', e = .returned v' ∧ Own w' base v' (zs ++ vi 9 x) ∧ Below base w w' := by
  go_enter Try.func14, Try.ntmps14
  go_wp2_with (at_builtin; refine wpList_append_bytes _ rfl (.tmp 64) (.tmp 73) rfl base _ _ rfl (hown.alloc _) _ _ _ [((x % 128 + 128 : Nat) : Int), ((x / 128 : Nat) : Int)] rfl (bts_new _ _ _ _ ?_ rfl) (fun h => by cases h) ?_ ?_ ?_)
  · exact low_group x (by omega)
  · simp; omega
  · simp; omega
  · intro v' w1 ho hbel
    go_wp2
    go_ret
    refine ⟨v', rfl, ?_, ((Below.refl _ _).alloc hb _).trans hbel⟩
    rw [vi_big _ _ hx0, vi_small _ _ (by omega)]
    exact ho

theorem low_group_int (x : Int) (h0 : 0 ≤ x) (hx : x < 18446744073709551616) : bits BinOp.or IntKind.u64 (bits BinOp.and IntKind.u64 x 127) 128 % 256 = x % 128 + 128 := by
  obtain ⟨n, rfl⟩ := Int.eq_ofNat_of_zero_le h0
  exact low_group n (by omega)

set_option maxHeartbeats 400000 in
set_option maxRecDepth 100000 in
theorem appendVarint_3i (x : Int) (v : Value) (zs : List Int) (base : Nat) (w : World) (hx0 : 16384 ≤ x) (hx : x < 2097152) (hown : Own w base v zs) (hb : base ≤ w.heap.size) (hz : zs.length ≤ 35184372088832) :
    Calls Try.prog 14 #[v, .int .u64 x] w fun e w' => ∃ v', e = .returned v' ∧ Own w' base v' (zs ++ [x % 128 + 128, x / 128 % 128 + 128, x / 16384]) ∧ Below base w w' := by
  go_enter Try.func14, Try.ntmps14
  go_wp2_with (at_builtin; refine wpList_append_bytes _ rfl (.tmp 78) (.tmp 92) rfl base _ _ rfl (hown.alloc _) _ _ _ [x % 128 + 128, x / 128 % 128 + 128, x / 16384] rfl (bts_new _ _ _ _ ?_ rfl) (fun h => by cases h) ?_ ?_ ?_)
  · exact ⟨low_group_int x (by omega) (by omega), low_group_int (x / 128) (by omega) (by omega)⟩
  · simp; omega
  · simp; omega
  · intro v' w1 ho hbel
    go_wp2
    go_ret
    exact ⟨v', rfl, ho, ((Below.refl _ _).alloc hb _).trans hbel⟩

theorem appendVarint_3 (x : Nat) (v : Value) (zs : List Int) (base : Nat) (w : World) (hx0 : 16384 ≤ x) (hx : x < 2097152) (hown : Own w base v zs) (hb : base ≤ w.heap.size) (hz : zs.length ≤ 35184372088832) :
    Calls Try.prog 14 #[v, .int .u64 x] w fun e w' => ∃ v', e = .returned v' ∧ Own w' base v' (zs ++ vi 9 x) ∧ Below base w w' := by
  have h := appendVarint_3i (x : Int) v zs base w (by omega) (by omega) hown hb hz
  rw [vi_big _ _ (by omega), vi_big _ _ (by omega), vi_small _ _ (by omega)]
  have e : ((x / 128 / 128 : Nat) : Int) = (x : Int) / 16384 := by omega
  rw [e]
  exact h

theorem appendVarint_any (x : Nat) (v : Value) (zs : List Int) (base : Nat) (w : World) (hx : x ≤ 1048576) (hown : Own w base v zs) (hb : base ≤ w.heap.size) (hz : zs.length ≤ 35184372088832) :
    Calls Try.prog 14 #[v, .int .u64 x] w fun e w' => ∃ v', e = .returned v' ∧ Own w' base v' (zs ++ vi 9 x) ∧ Below base w w' := by
  by_cases h1 : x < 128
  · exact appendVarint_1 x v zs base w h1 hown hb hz
  · by_cases h2 : x < 16384
    · exact appendVarint_2 x v zs base w (by omega) h2 hown hb hz
    · exact appendVarint_3 x v zs base w (by omega) (by omega) hown hb hz

/-- protowire.AppendBytes: the length's varint, then the bytes. -/
theorem appendBytes_any (v : Value) (zs : List Int) (base : Nat) (a : Option Addr) (n c : Nat) (ys : List Int) (w : World) (hn : n ≤ 1048576) (hown : Own w base v zs) (hsrc : ∀ w', Below base w w' → Bts w' a n ys) (hc : a = none → c = 0) (hb : base ≤ w.heap.size) (hz : zs.length ≤ 17592186044416) :
    Calls Try.prog 12 #[v, .slice a n c] w fun e w' => ∃ v', e = .returned v' ∧ Own w' base v' (zs ++ (vi 9 n ++ ys)) ∧ Below base w w' := by
  have hv := vi_le 9 n
  have hl := (hsrc w (Below.refl _ _)).1
  go_enter Try.func12, Try.ntmps12
  go_wp2_with fail
  refine (appendVarint_any n v zs base w hn hown hb (by omega)).mono ?_
  rintro e w1 ⟨v1, rfl, ho1, hb1⟩
  have hs1 := hb1.size
  go_wp2_with (at_builtin; refine wpList_append_bytes _ rfl (.tmp 9) (.tmp 10) rfl base _ _ rfl ho1 _ _ _ ys rfl (hsrc _ hb1) hc ?_ ?_ ?_)
  · simp; omega
  · omega
  · intro v' w2 ho hbel
    go_wp2
    go_ret
    exact ⟨v', rfl, ho, hb1.trans hbel⟩

end Go.Proofs.Qxb6628526a
