/-
  CONTRACTS OF THE LAW's OWN zzB1VarintLen (7) AND zzB1AppendVarint (8), for numbers up to 1048576.
-/
import Derived.Test.Qxb6628526aVarint
namespace Go.Proofs.Qxb6628526a
open Go.RowKit Go.WideShapes Plain

set_option maxHeartbeats 400000 in
theorem varintLen_any (x : Nat) (w : World) (hx : x ≤ 1048576) :
    Calls Try.prog 7 #[.int .u64 x] w fun e w' => e = .returned (.int .i64 (vi 9 x).length) ∧ w' = w := by
  have e1 : x < 128 → Hid ((vi 9 x).length = 1) := fun h => by unfold Hid; rw [vi_small _ _ h]; rfl
  have e2 : 128 ≤ x → x < 16384 → Hid ((vi 9 x).length = 2) := fun h h' => by unfold Hid; rw [vi_big _ _ h, vi_small _ _ (by omega)]; rfl
  have e3 : 16384 ≤ x → Hid ((vi 9 x).length = 3) := fun h => by unfold Hid; rw [vi_big _ _ (by omega), vi_big _ _ (by omega), vi_small _ _ (by omega)]; rfl
  generalize (vi 9 x).length = n at e1 e2 e3 ⊢
  obtain ⟨y, hy⟩ : ∃ y : Int, y = (x : Int) := ⟨_, rfl⟩
  rw [← hy]
  have e1' : y < 128 → n = 1 := fun h => (e1 (by omega)).out
  have e2' : 128 ≤ y → y < 16384 → n = 2 := fun h h' => (e2 (by omega) (by omega)).out
  have e3' : 16384 ≤ y → n = 3 := fun h => (e3 (by omega)).out
  have hy0 : 0 ≤ y := by omega
  have hy1 : y ≤ 1048576 := by omega
  clear e1 e2 e3 hy hx
  have f1 : Hid (y < 128 → n = 1) := e1'
  have f2 : Hid (128 ≤ y → y < 16384 → n = 2) := e2'
  have f3 : Hid (16384 ≤ y → n = 3) := e3'
  clear e1' e2' e3'
  go_enter Try.func7, Try.ntmps7
  go_wp2
  go_loop [0, 3] (fun v c => (v = .int .u64 y ∧ c = .int .i64 1) ∨ (v = .int .u64 (y / 128) ∧ c = .int .i64 2 ∧ 128 ≤ y) ∨ (v = .int .u64 (y / 16384) ∧ c = .int .i64 3 ∧ 16384 ≤ y)) (fun _ c => (3 - intOf c).toNat)
  case atStart => exact .inl ⟨rfl, rfl⟩
  case round =>
    rcases hrel with ⟨rfl, rfl⟩ | ⟨rfl, rfl, h1⟩ | ⟨rfl, rfl, h1⟩
    · by_cases h : y < 128
      · go_wp2
        go_ret
        exact ⟨by rw [f1.out h]; rfl, rfl⟩
      · go_wp2
        go_round
        case rel => exact .inr (.inl ⟨rfl, rfl, by omega⟩)
        case measure => simp [intOf]
    · by_cases h : y < 16384
      · have h2 : y / 128 < 128 := by omega
        go_wp2
        go_ret
        exact ⟨by rw [f2.out h1 h]; rfl, rfl⟩
      · have h2 : 128 ≤ y / 128 := by omega
        go_wp2
        go_round
        case rel => exact .inr (.inr ⟨by go_num, rfl, by omega⟩)
        case measure => simp [intOf]
    · have h2 : y / 16384 < 128 := by omega
      go_wp2
      go_ret
      exact ⟨by rw [f3.out h1]; rfl, rfl⟩

theorem or128_u8 : ∀ z : Fin 128, bits BinOp.or IntKind.u8 (z.val : Int) 128 = (z.val : Int) + 128 := by decide +kernel

/-- 'byte(v&0x7f) | 0x80' -/
theorem low_byte (x : Int) (h0 : 0 ≤ x) (hx : x < 18446744073709551616) : bits BinOp.or IntKind.u8 (bits BinOp.and IntKind.u64 x 127 % 256) 128 = x % 128 + 128 := by
  obtain ⟨n, rfl⟩ := Int.eq_ofNat_of_zero_le h0
  have h1 := bits_and_u64_nat n 127 (by omega) (by decide)
  have h3 : n &&& 127 = n % 128 := Nat.and_two_pow_sub_one_eq_mod n 7
  rw [h3] at h1
  have e1 : ((127 : Nat) : Int) = 127 := rfl
  rw [e1] at h1
  have h4 := or128_u8 ⟨n % 128, by omega⟩
  simp only at h4
  rw [h1]
  have e2 : (((n % 128 : Nat) : Int)) % 256 = ((n % 128 : Nat) : Int) := by omega
  rw [e2, h4]
  omega

set_option maxHeartbeats 400000 in
theorem ownVarint_int (y : Int) (v : Value) (zs : List Int) (base : Nat) (w : World) (hy0 : 0 ≤ y) (hy1 : y ≤ 1048576) (hown : Own w base v zs) (hb : base ≤ w.heap.size) (hz : zs.length ≤ 17592186044416) :
    Calls Try.prog 8 #[v, .int .u64 y] w fun e w' => ∃ v', e = .returned v' ∧ (∃ ys, Own w' base v' (zs ++ ys) ∧ (y < 128 → ys = [y]) ∧ (128 ≤ y → y < 16384 → ys = [y % 128 + 128, y / 128]) ∧ (16384 ≤ y → ys = [y % 128 + 128, y / 128 % 128 + 128, y / 16384])) ∧ Below base w w' := by
  go_enter Try.func8, Try.ntmps8
  go_wp2_with fail
  go_loopw [0, 1] (fun b v wr => Below base w wr ∧ ((v = .int .u64 y ∧ Own wr base b zs) ∨ (v = .int .u64 (y / 128) ∧ Own wr base b (zs ++ [y % 128 + 128]) ∧ 128 ≤ y) ∨ (v = .int .u64 (y / 16384) ∧ Own wr base b (zs ++ [y % 128 + 128, y / 128 % 128 + 128]) ∧ 16384 ≤ y))) (fun _ v _ => (intOf v).toNat)
  case atStart => exact ⟨Below.refl _ _, .inl ⟨rfl, hown⟩⟩
  case round =>
    obtain ⟨hbel, h⟩ := hrel
    have hsz := hbel.size
    rcases h with ⟨rfl, ho⟩ | ⟨rfl, ho, h1⟩ | ⟨rfl, ho, h1⟩
    · by_cases h : y < 128
      · go_wp2_with (at_builtin; refine wpList_append_bytes _ rfl (.tmp 16) (.tmp 19) rfl base _ _ rfl (ho.alloc _) _ _ _ [y] rfl (bts_new _ _ _ _ rfl rfl) (fun h => by cases h) (by simp; omega) (by simp; omega) ?_)
        intro v' w1 ho1 hb1
        go_wp2
        go_ret
        refine ⟨v', rfl, ⟨_, ho1, fun _ => rfl, fun _ _ => by omega, fun _ => by omega⟩, (hbel.alloc (by omega) _).trans hb1⟩
      · go_wp2_with (at_builtin; refine wpList_append_bytes _ rfl (.tmp 7) (.tmp 12) rfl base _ _ rfl (ho.alloc _) _ _ _ [y % 128 + 128] rfl (bts_new _ _ _ _ ?_ rfl) (fun h => by cases h) (by simp; omega) (by simp; omega) ?_)
        · exact low_byte y (by omega) (by omega)
        intro v' w1 ho1 hb1
        go_wp2
        go_roundw
        case rel => exact ⟨(hbel.alloc (by omega) _).trans hb1, .inr (.inl ⟨rfl, ho1, by omega⟩)⟩
        case measure => simp [intOf]; omega
    · by_cases h : y < 16384
      · have h2 : y / 128 < 128 := by omega
        go_wp2_with (at_builtin; refine wpList_append_bytes _ rfl (.tmp 16) (.tmp 19) rfl base _ _ rfl (ho.alloc _) _ _ _ [y / 128] rfl (bts_new _ _ _ _ rfl rfl) (fun h => by cases h) (by simp; omega) (by simp; omega) ?_)
        intro v' w1 ho1 hb1
        go_wp2
        go_ret
        exact ⟨v', rfl, ⟨_, ho1, fun _ => by omega, fun _ _ => rfl, fun _ => by omega⟩, (hbel.alloc (by omega) _).trans hb1⟩
      · have h2 : 128 ≤ y / 128 := by omega
        go_wp2_with (at_builtin; refine wpList_append_bytes _ rfl (.tmp 7) (.tmp 12) rfl base _ _ rfl (ho.alloc _) _ _ _ [y / 128 % 128 + 128] rfl (bts_new _ _ _ _ ?_ rfl) (fun h => by cases h) (by simp; omega) (by simp; omega) ?_)
        · exact low_byte (y / 128) (by omega) (by omega)
        intro v' w1 ho1 hb1
        go_wp2
        go_roundw
        case rel => exact ⟨(hbel.alloc (by omega) _).trans hb1, .inr (.inr ⟨by go_num, ho1, by omega⟩)⟩
        case measure => simp [intOf]; omega
    · have h2 : y / 16384 < 128 := by omega
      go_wp2_with (at_builtin; refine wpList_append_bytes _ rfl (.tmp 16) (.tmp 19) rfl base _ _ rfl (ho.alloc _) _ _ _ [y / 16384] rfl (bts_new _ _ _ _ rfl rfl) (fun h => by cases h) (by simp; omega) (by simp; omega) ?_)
      intro v' w1 ho1 hb1
      go_wp2
      go_ret
      exact ⟨v', rfl, ⟨_, ho1, fun _ => by omega, fun _ _ => by omega, fun _ => rfl⟩, (hbel.alloc (by omega) _).trans hb1⟩

/-- zzB1AppendVarint: the varint is appended. -/
theorem ownVarint_any (x : Nat) (v : Value) (zs : List Int) (base : Nat) (w : World) (hx : x ≤ 1048576) (hown : Own w base v zs) (hb : base ≤ w.heap.size) (hz : zs.length ≤ 17592186044416) :
    Calls Try.prog 8 #[v, .int .u64 x] w fun e w' => ∃ v', e = .returned v' ∧ Own w' base v' (zs ++ vi 9 x) ∧ Below base w w' := by
  refine (ownVarint_int (x : Int) v zs base w (by omega) (by omega) hown hb hz).mono ?_
  rintro e w' ⟨v', rfl, ⟨ys, ho, h1, h2, h3⟩, hbel⟩
  have e : vi 9 x = ys := by
    by_cases g1 : x < 128
    · rw [h1 (by omega), vi_small _ _ g1]
    · by_cases g2 : x < 16384
      · rw [h2 (by omega) (by omega), vi_big _ _ (by omega), vi_small _ _ (by omega)]; rfl
      · rw [h3 (by omega), vi_big _ _ (by omega), vi_big _ _ (by omega), vi_small _ _ (by omega)]
        have e : ((x / 128 / 128 : Nat) : Int) = (x : Int) / 16384 := by omega
        rw [e]; rfl
  rw [e]
  exact ⟨v', rfl, ho, hbel⟩

end Go.Proofs.Qxb6628526a
