/-
  THE WALK OF FnStringMatchesReadBack (3): it returns true and writes nothing that was there.
-/
import Derived.Test.Qxb6628612aDoorDecimal
import Derived.Test.Qxb6628612aDoorLiteral
import Derived.Lib.ItoaLen
namespace Go.Proofs.Qxb6628612aDoor
open Go.RowKit Plain

theorem size_of (l : List UInt8) : (⟨l.toArray⟩ : ByteArray).size = l.length := by
  show l.toArray.size = _
  simp
theorem size_list (D : ByteArray) : D.data.toList.length = D.size := by simp

theorem mem_data (D : ByteArray) (i : Nat) (h : i < D.size) : D[i] ∈ D.data.toList := by
  have h2 : i < D.data.toList.length := by rw [size_list]; exact h
  have e : D[i] = D.data.toList[i] := rfl
  rw [e]
  exact List.getElem_mem h2

theorem at_data (D : ByteArray) (i : Nat) (h : i < D.size) (c : UInt8) (e : D.data.toList[i]? = some c) : D[i] = c := by
  have h2 : i < D.data.toList.length := by rw [size_list]; exact h
  rw [List.getElem?_eq_getElem h2] at e
  exact Option.some.inj e

/-- readDecimalB1 at the numeral of n. -/
theorem decimal_itoa (n : Int) (w : World) (h0 : -9223372036854775808 ≤ n) (h1 : n ≤ 9223372036854775807) :
    Calls Tryd.prog 8 #[.string ⟨(Lib.itoa n).toArray⟩] w fun e w' => e = .returned (.tuple #[.int .i64 n, .bool true]) ∧ w' = w := by
  have hlen := Lib.itoa_length_le n h0 h1
  by_cases hn : n < 0
  · obtain ⟨u, hu⟩ : ∃ u : Nat, n = -(u : Int) := ⟨n.natAbs, by omega⟩
    subst hu
    have e : Lib.itoa (-(u : Int)) = 45 :: Lib.decDigits u := by unfold Lib.itoa; rw [if_pos hn]; simp
    rw [e] at hlen ⊢
    obtain ⟨T, hT⟩ : ∃ T : ByteArray, T = ⟨(45 :: Lib.decDigits u).toArray⟩ := ⟨_, rfl⟩
    rw [← hT]
    obtain ⟨c, r, ec, hc, _⟩ := dec_head u (by omega)
    have hl : T.data.toList = 45 :: Lib.decDigits u := by rw [hT]
    have hs : T.size = (Lib.decDigits u).length + 1 := by rw [← size_list, hl]; simp
    have hp : 0 < (Lib.decDigits u).length := by rw [ec]; simp
    have hD : (T.extract 1 T.size).data.toList = Lib.decDigits u := by
      rw [Lib.extract_data, hl, hs]
      simp
    have hDs : (T.extract 1 T.size).size = (Lib.decDigits u).length := by rw [← size_list, hD]
    simp only [List.length_cons] at hlen
    refine decimal_minus T u w (by omega) (by omega) (by omega) (fun i h => dec_digits u _ (by rw [← hD]; exact mem_data _ i h)) (by rw [hD]; exact num_dec u) (by omega) (by omega) ?_ ?_
    · rw [at_data T 0 (by omega) 45 (by rw [hl]; rfl)]
      rfl
    · rw [at_data (T.extract 1 T.size) 0 (by omega) c (by rw [hD, ec]; rfl)]
      exact beq_eq_false_iff_ne.2 (by omega)
  · obtain ⟨u, rfl⟩ := Int.eq_ofNat_of_zero_le (show 0 ≤ n by omega)
    have e : Lib.itoa ((u : Nat) : Int) = Lib.decDigits u := by unfold Lib.itoa; rw [if_neg (by omega)]; simp
    rw [e] at hlen ⊢
    obtain ⟨T, hT⟩ : ∃ T : ByteArray, T = ⟨(Lib.decDigits u).toArray⟩ := ⟨_, rfl⟩
    rw [← hT]
    have hl : T.data.toList = Lib.decDigits u := by rw [hT]
    have hs : T.size = (Lib.decDigits u).length := by rw [← size_list, hl]
    have hp : 0 < (Lib.decDigits u).length := List.length_pos_iff.2 (dec_ne u)
    refine decimal_plus T u w (by omega) (by omega) (fun i h => dec_digits u _ (by rw [← hl]; exact mem_data _ i h)) (by rw [hl]; exact num_dec u) (by omega) ?_
    intro hh
    by_cases hu : u = 0
    · rw [hs, hu, Lib.decDigits_one (by omega)]
      rfl
    · obtain ⟨c, r, ec, hc, _⟩ := dec_head u (by omega)
      rw [at_data T 0 (by omega) c (by rw [hl, ec]; rfl)] at hh
      simp at hh
      omega

/-- readLiteralB1 at the literal of a text. -/
theorem literal_qlit (s : ByteArray) (w : World) (hs : s.size ≤ 1048576) :
    Calls Tryd.prog 9 #[.string ⟨(qlit s.data.toList).toArray⟩] w fun e w' => e = .returned (.tuple #[.string s, .bool true]) ∧ Below w.heap.size w w' := by
  have es : (⟨s.data.toList.toArray⟩ : ByteArray) = s := by cases s; simp
  obtain ⟨T, hT⟩ : ∃ T : ByteArray, T = ⟨(qlit s.data.toList).toArray⟩ := ⟨_, rfl⟩
  rw [← hT]
  have hl : T.data.toList = 39 :: (s.data.toList.flatMap esc ++ [39]) := by rw [hT]; rfl
  have hz : T.size = (s.data.toList.flatMap esc).length + 2 := by rw [← size_list, hl]; simp
  have hf := flat_len s.data.toList
  rw [size_list] at hf
  have key := literal_any T s.data.toList w (by omega) (by omega) ?_ ?_ ?_
  · rw [es] at key
    exact key
  · rw [at_data T 0 (by omega) 39 (by rw [hl]; rfl)]
    rfl
  · rw [at_data T (T.size - 1) (by omega) 39 (by rw [hl, hz]; simp)]
    rfl
  · rw [Lib.extract_data, hl, hz]
    simp

theorem zzBytes5_any (k n : Int) (s : ByteArray) (w : World) : Calls Tryd.prog 5 #[.int .u8 k, .int .i64 n, .string s] w fun e w' => AnyBool e ∧ w' = w := by
  go_enter Tryd.func5, Tryd.ntmps5
  go_wp2
  all_goals
    go_ret
    exact ⟨anyBool _, rfl⟩

set_option maxHeartbeats 800000 in
theorem back_core (k n : Int) (s : ByteArray) (w : World) (hk0 : 0 ≤ k) (hk : k ≤ 2) (h0 : -9223372036854775808 ≤ n) (h1 : n ≤ 9223372036854775807) (hs : s.size ≤ 1048576) (htab : Lib.TabIs Tryd.prog w tabName .u64 Lib.pow10Tab) :
    Calls Tryd.prog 3 #[.int .u8 k, .int .i64 n, .string s] w fun e w' => e = .returned (.bool true) ∧ Below w.heap.size w w' := by
  have HT : Hid (Lib.TabIs Tryd.prog w tabName .u64 Lib.pow10Tab) := htab
  clear htab
  have hs' : ¬ (1048576 : Int) < (s.size : Int) := by omega
  have hk3 : k = 0 ∨ k = 1 ∨ k = 2 := by omega
  rcases hk3 with rfl | rfl | rfl
  · go_enter Tryd.func3, Tryd.ntmps3
    go_wp2_with fail
    refine (zzBytes5_any _ _ _ _).mono ?_
    rintro e w ⟨⟨r, rfl⟩, rfl⟩
    cases r
    · go_wp2
      go_ret
      exact ⟨rfl, Below.refl _ _⟩
    go_wp2_with fail
    refine (mk_0 n s w).mono ?_
    rintro e w1 ⟨rfl, hb1⟩
    go_wp2_with fail
    refine (string_null 0 ⟨#[]⟩ w1).mono ?_
    rintro e w2 ⟨rfl, hb2⟩
    have hb2' : Below w.heap.size w w2 := hb1.trans (hb2.mono hb1.size)
    go_wp2
    go_ret
    exact ⟨rfl, hb2'⟩
  · obtain ⟨T, p, q⟩ : ∃ T : ByteArray, (∀ w, Lib.TabIs Tryd.prog w tabName .u64 Lib.pow10Tab → Calls Tryd.prog 7 #[.agg #[.int .i64 n, .string ⟨#[]⟩, .int .u8 1]] w fun e w' => e = .returned (.string T) ∧ Below w.heap.size w w') ∧
        (∀ w, Calls Tryd.prog 8 #[.string T] w fun e w' => e = .returned (.tuple #[.int .i64 n, .bool true]) ∧ w' = w) :=
      ⟨_, fun w ht => string_int n ⟨#[]⟩ w h0 h1 ht, fun w => decimal_itoa n w h0 h1⟩
    have P1 : Hid (∀ w, Lib.TabIs Tryd.prog w tabName .u64 Lib.pow10Tab → Calls Tryd.prog 7 #[.agg #[.int .i64 n, .string ⟨#[]⟩, .int .u8 1]] w fun e w' => e = .returned (.string T) ∧ Below w.heap.size w w') := p
    have Q1 : Hid (∀ w, Calls Tryd.prog 8 #[.string T] w fun e w' => e = .returned (.tuple #[.int .i64 n, .bool true]) ∧ w' = w) := q
    clear p q
    go_enter Tryd.func3, Tryd.ntmps3
    go_wp2_with fail
    refine (zzBytes5_any _ _ _ _).mono ?_
    rintro e w ⟨⟨r, rfl⟩, rfl⟩
    cases r
    · go_wp2
      go_ret
      exact ⟨rfl, Below.refl _ _⟩
    go_wp2_with fail
    refine (mk_1 n s w).mono ?_
    rintro e w1 ⟨rfl, hb1⟩
    go_wp2_with fail
    refine (P1.out w1 (tab_later HT.out hb1)).mono ?_
    rintro e w2 ⟨rfl, hb2⟩
    have hb2' : Below w.heap.size w w2 := hb1.trans (hb2.mono hb1.size)
    clear hb1 hb2
    go_wp2_with fail
    refine (Q1.out w2).mono ?_
    rintro e w2 ⟨rfl, rfl⟩
    go_wp2_with fail
    go_ret
    exact ⟨rfl, hb2'⟩
  · obtain ⟨T, p, q⟩ : ∃ T : ByteArray, (∀ w, Calls Tryd.prog 7 #[.agg #[.int .i64 0, .string s, .int .u8 2]] w fun e w' => e = .returned (.string T) ∧ Below w.heap.size w w') ∧
        (∀ w, Calls Tryd.prog 9 #[.string T] w fun e w' => e = .returned (.tuple #[.string s, .bool true]) ∧ Below w.heap.size w w') :=
      ⟨_, fun w => string_text 0 s w hs, fun w => literal_qlit s w hs⟩
    have P1 : Hid (∀ w, Calls Tryd.prog 7 #[.agg #[.int .i64 0, .string s, .int .u8 2]] w fun e w' => e = .returned (.string T) ∧ Below w.heap.size w w') := p
    have Q1 : Hid (∀ w, Calls Tryd.prog 9 #[.string T] w fun e w' => e = .returned (.tuple #[.string s, .bool true]) ∧ Below w.heap.size w w') := q
    clear p q
    go_enter Tryd.func3, Tryd.ntmps3
    go_wp2_with fail
    refine (zzBytes5_any _ _ _ _).mono ?_
    rintro e w ⟨⟨r, rfl⟩, rfl⟩
    cases r
    · go_wp2
      go_ret
      exact ⟨rfl, Below.refl _ _⟩
    go_wp2_with fail
    refine (mk_2 n s w).mono ?_
    rintro e w1 ⟨rfl, hb1⟩
    go_wp2_with fail
    refine (P1.out w1).mono ?_
    rintro e w2 ⟨rfl, hb2⟩
    have hb2' : Below w.heap.size w w2 := hb1.trans (hb2.mono hb1.size)
    clear hb1 hb2
    go_wp2_with fail
    refine (Q1.out w2).mono ?_
    rintro e w3 ⟨rfl, hb3⟩
    have hb3' : Below w.heap.size w w3 := hb2'.trans (hb3.mono hb2'.size)
    clear hb3 hb2'
    go_wp2_with fail
    go_ret
    exact ⟨rfl, hb3'⟩

set_option maxHeartbeats 800000 in
theorem back_walk (k n : Int) (s : ByteArray) (w : World) (hk0 : 0 ≤ k) (hn : -9223372036854775808 ≤ n ∧ n ≤ 9223372036854775807) (htab : Lib.TabIs Tryd.prog w tabName .u64 Lib.pow10Tab) :
    Calls Tryd.prog 3 #[.int .u8 k, .int .i64 n, .string s] w fun e w' => e = .returned (.bool true) ∧ Below w.heap.size w w' := by
  by_cases g1 : s.size ≤ 1048576
  · by_cases g3 : k ≤ 2
    · exact back_core k n s w hk0 g3 hn.1 hn.2 g1 htab
    · clear htab
      go_enter Tryd.func3, Tryd.ntmps3
      go_wp2_with fail
      refine (zzBytes5_any _ _ _ _).mono ?_
      rintro e w ⟨⟨r, rfl⟩, rfl⟩
      cases r <;> (go_wp2; go_ret; exact ⟨rfl, Below.refl _ _⟩)
  · clear htab
    go_enter Tryd.func3, Tryd.ntmps3
    go_wp2_with fail
    refine (zzBytes5_any _ _ _ _).mono ?_
    rintro e w ⟨⟨r, rfl⟩, rfl⟩
    cases r <;> (go_wp2; go_ret; exact ⟨rfl, Below.refl _ _⟩)

end Go.Proofs.Qxb6628612aDoor
