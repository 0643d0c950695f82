/-
  CONTRACT OF readDecimalB1 (8) at a numeral.
-/
import Derived.Test.Qxb6628612aDoorMarker
namespace Go.Proofs.Qxb6628612aDoor
open Go.RowKit Plain

theorem num_grow (l : List UInt8) (a : Nat) : a ≤ l.foldl (fun a c => a * 10 + (c.toNat - 48)) a := by
  induction l generalizing a with
  | nil => exact Nat.le_refl _
  | cons c l ih => exact Nat.le_trans (by omega) (ih (a * 10 + (c.toNat - 48)))

theorem num_take_le (l : List UInt8) (k : Nat) : num (l.take k) ≤ num l := by
  have h : num (l.take k ++ l.drop k) = num l := by rw [List.take_append_drop]
  rw [← h]
  unfold num
  rw [List.foldl_append]
  exact num_grow _ _

theorem num_take_next (t : ByteArray) (k : Nat) (h : k < t.size) : num (t.data.toList.take (k + 1)) = num (t.data.toList.take k) * 10 + (t[k].toNat - 48) := by
  have h2 : k < t.data.toList.length := by simpa using h
  rw [List.take_succ_eq_append_getElem h2, num_snoc]
  rfl

theorem ret_two {a b : Int} (h : a = b) : Ending.returned (.tuple #[.int .i64 a, .bool true]) = .returned (.tuple #[.int .i64 b, .bool true]) := by rw [h]

set_option maxHeartbeats 800000 in
theorem decimal_plus (t : ByteArray) (u : Nat) (w : World) (h0 : 0 < t.size) (hsz : t.size ≤ 100) (hdig : ∀ i (h : i < t.size), 48 ≤ t[i].toNat ∧ t[i].toNat ≤ 57) (hnum : num t.data.toList = u) (hu : u ≤ 9223372036854775807)
    (hlead : ((t[0].toNat : Int) == 48) = true → t.size = 1) :
    Calls Tryd.prog 8 #[.string t] w fun e w' => e = .returned (.tuple #[.int .i64 u, .bool true]) ∧ w' = w := by
  have hz : ((t.size : Int) == 0) = false := beq_eq_false_iff_ne.2 (by omega)
  have h45 : ((t[0].toNat : Int) == 45) = false := beq_eq_false_iff_ne.2 (by have := (hdig 0 h0).1; omega)
  have HD : Hid (∀ i (h : i < t.size), 48 ≤ t[i].toNat ∧ t[i].toNat ≤ 57) := hdig
  have HN : Hid (num t.data.toList = u) := hnum
  clear hdig hnum
  by_cases hl : ((t[0].toNat : Int) == 48) = true
  · have h1 : t.size ≤ 1 := by have := hlead hl; omega
    have h1' : ¬ (1 : Int) < (t.size : Int) := by omega
    clear hlead
    go_enter Tryd.func8, Tryd.ntmps8
    go_wp2_with fail
    go_loop [7, 8] (fun m i => ∃ k : Nat, k ≤ t.size ∧ i = .int .i64 k ∧ m = .int .u64 (num (t.data.toList.take k))) (fun _ i => t.size - (intOf i).toNat)
    case atStart => exact ⟨0, Nat.zero_le _, rfl, rfl⟩
    case round =>
      obtain ⟨k, hk, rfl, rfl⟩ := hrel
      by_cases hlt : k < t.size
      · have hd := HD.out k hlt
        have c1 : 48 ≤ (t[k].toNat : Int) := by omega
        have c2 : (t[k].toNat : Int) ≤ 57 := by omega
        have hnx : Hid (num (t.data.toList.take (k + 1)) = num (t.data.toList.take k) * 10 + (t[k].toNat - 48)) := num_take_next t k hlt
        have hle := num_take_le t.data.toList (k + 1)
        rw [hnx.out, HN.out] at hle
        have hq : (num (t.data.toList.take k) : Int) ≤ (9223372036854775807 - ((t[k].toNat : Int) - 48)) / 10 := by omega
        clear hle hd
        go_wp2
        go_round
        case rel => exact ⟨k + 1, by omega, by go_num, by rw [hnx.out]; go_num⟩
        case measure => simp [intOf]; omega
      · obtain rfl : k = t.size := by omega
        have hall : Hid (num (t.data.toList.take t.size) = u) := by
          unfold Hid
          rw [List.take_of_length_le (by simp)]
          exact HN.out
        have hb : (num (t.data.toList.take t.size) : Int) ≤ 9223372036854775807 := by rw [hall.out]; omega
        go_wp2
        go_ret2
        exact ⟨ret_two (by rw [hall.out]), rfl⟩
  · have hl' : ((t[0].toNat : Int) == 48) = false := by simpa using hl
    clear hl hlead
    go_enter Tryd.func8, Tryd.ntmps8
    go_wp2_with fail
    go_loop [7, 8] (fun m i => ∃ k : Nat, k ≤ t.size ∧ i = .int .i64 k ∧ m = .int .u64 (num (t.data.toList.take k))) (fun _ i => t.size - (intOf i).toNat)
    case atStart => exact ⟨0, Nat.zero_le _, rfl, rfl⟩
    case round =>
      obtain ⟨k, hk, rfl, rfl⟩ := hrel
      by_cases hlt : k < t.size
      · have hd := HD.out k hlt
        have c1 : 48 ≤ (t[k].toNat : Int) := by omega
        have c2 : (t[k].toNat : Int) ≤ 57 := by omega
        have hnx : Hid (num (t.data.toList.take (k + 1)) = num (t.data.toList.take k) * 10 + (t[k].toNat - 48)) := num_take_next t k hlt
        have hle := num_take_le t.data.toList (k + 1)
        rw [hnx.out, HN.out] at hle
        have hq : (num (t.data.toList.take k) : Int) ≤ (9223372036854775807 - ((t[k].toNat : Int) - 48)) / 10 := by omega
        clear hle hd
        go_wp2
        go_round
        case rel => exact ⟨k + 1, by omega, by go_num, by rw [hnx.out]; go_num⟩
        case measure => simp [intOf]; omega
      · obtain rfl : k = t.size := by omega
        have hall : Hid (num (t.data.toList.take t.size) = u) := by
          unfold Hid
          rw [List.take_of_length_le (by simp)]
          exact HN.out
        have hb : (num (t.data.toList.take t.size) : Int) ≤ 9223372036854775807 := by rw [hall.out]; omega
        go_wp2
        go_ret2
        exact ⟨ret_two (by rw [hall.out]), rfl⟩

/-- The number that the first k digits behind the sign spell (a name that the walk does not open). -/
def nt (t : ByteArray) (k : Nat) : Nat := num ((t.extract 1 t.size).data.toList.take k)

theorem wrap_neg (u : Nat) (h0 : 1 ≤ u) (h1 : u ≤ 9223372036854775808) : wrap64 (IntKind.u64.wrap (-(u : Int))) = -(u : Int) := by
  rw [IntKind.wrap_u64]
  unfold wrap64
  omega

set_option maxHeartbeats 800000 in
theorem decimal_minus (t : ByteArray) (u : Nat) (w : World) (h0 : 1 < t.size) (hsz : t.size ≤ 100) (hz0 : 0 < (t.extract 1 t.size).size) (hdig : ∀ i (h : i < (t.extract 1 t.size).size), 48 ≤ (t.extract 1 t.size)[i].toNat ∧ (t.extract 1 t.size)[i].toNat ≤ 57)
    (hnum : num (t.extract 1 t.size).data.toList = u) (hu0 : 1 ≤ u) (hu : u ≤ 9223372036854775808) (hneg : ((t[0].toNat : Int) == 45) = true) (hlead : (((t.extract 1 t.size)[0].toNat : Int) == 48) = false) :
    Calls Tryd.prog 8 #[.string t] w fun e w' => e = .returned (.tuple #[.int .i64 (-(u : Int)), .bool true]) ∧ w' = w := by
  have hz : ((t.size : Int) == 0) = false := beq_eq_false_iff_ne.2 (by omega)
  have hes : (t.extract 1 t.size).size = t.size - 1 := by simp
  have HS : Hid ((t.extract 1 t.size).size = t.size - 1) := hes
  have HD : Hid (∀ i (h : i < (t.extract 1 t.size).size), 48 ≤ (t.extract 1 t.size)[i].toNat ∧ (t.extract 1 t.size)[i].toNat ≤ 57) := hdig
  have HN : Hid (num (t.extract 1 t.size).data.toList = u) := hnum
  clear hdig hnum hes
  go_enter Tryd.func8, Tryd.ntmps8
  go_wp2_with fail
  go_loop [7, 8] (fun m i => ∃ k : Nat, k ≤ t.size - 1 ∧ i = .int .i64 k ∧ m = .int .u64 (nt t k)) (fun _ i => t.size - 1 - (intOf i).toNat)
  case atStart => exact ⟨0, Nat.zero_le _, rfl, rfl⟩
  case round =>
    obtain ⟨k, hk, rfl, rfl⟩ := hrel
    by_cases hlt : k < t.size - 1
    · have hlt2 : k < (t.extract 1 t.size).size := by rw [HS.out]; exact hlt
      have hd := HD.out k hlt2
      have c1 : 48 ≤ ((t.extract 1 t.size)[k].toNat : Int) := by omega
      have c2 : ((t.extract 1 t.size)[k].toNat : Int) ≤ 57 := by omega
      have hnx : Hid (nt t (k + 1) = nt t k * 10 + ((t.extract 1 t.size)[k].toNat - 48)) := num_take_next (t.extract 1 t.size) k hlt2
      have hle : nt t (k + 1) ≤ num (t.extract 1 t.size).data.toList := num_take_le (t.extract 1 t.size).data.toList (k + 1)
      rw [hnx.out, HN.out] at hle
      have hq : (nt t k : Int) ≤ (9223372036854775808 - (((t.extract 1 t.size)[k].toNat : Int) - 48)) / 10 := by omega
      clear hle hd
      go_wp2
      go_round
      case rel => exact ⟨k + 1, by omega, by go_num, by rw [hnx.out]; go_num⟩
      case measure => simp [intOf]; omega
    · obtain rfl : k = t.size - 1 := by omega
      have hall : Hid (nt t (t.size - 1) = u) := by
        unfold Hid nt
        rw [List.take_of_length_le (by rw [← HS.out]; exact Nat.le_refl _)]
        exact HN.out
      have hb : (nt t (t.size - 1) : Int) ≤ 9223372036854775808 := by rw [hall.out]; omega
      have hb1 : 1 ≤ (nt t (t.size - 1) : Int) := by rw [hall.out]; omega
      go_wp2
      go_ret2
      refine ⟨ret_two ?_, rfl⟩
      rw [hall.out]
      exact wrap_neg u hu0 hu

end Go.Proofs.Qxb6628612aDoor
