/-
  THE WALK OF FnStringInjective (4): it returns true and writes nothing that was there.
-/
import Derived.Test.Qxb6628612aDoorMarker
namespace Go.Proofs.Qxb6628612aDoor
open Go.RowKit Plain

/-- The head of the printout tells the kind. -/
theorem vstr_kind (k n j m : Int) (l r : List UInt8) (hk0 : 0 ≤ k) (hk : k ≤ 2) (hj0 : 0 ≤ j) (hj : j ≤ 2) (h : vstr k n l = vstr j m r) : k = j := by
  obtain ⟨c, cl, ec, hc⟩ := itoa_head n
  obtain ⟨d, dl, ed, hd⟩ := itoa_head m
  have key : ∀ (c : UInt8) (x : Int), (c = 45 ∧ x < 0 ∨ 48 ≤ c.toNat ∧ c.toNat ≤ 57 ∧ 0 ≤ x) → c ≠ 78 ∧ c ≠ 39 := by
    intro c x h
    have e1 : (78 : UInt8).toNat = 78 := rfl
    have e2 : (39 : UInt8).toNat = 39 := rfl
    rcases h with ⟨rfl, _⟩ | ⟨h1, h2, _⟩
    · decide
    · exact ⟨fun e => by rw [e] at h2; omega, fun e => by rw [e] at h1; omega⟩
  have kc := key c n hc
  have kd := key d m hd
  have hk3 : k = 0 ∨ k = 1 ∨ k = 2 := by omega
  have hj3 : j = 0 ∨ j = 1 ∨ j = 2 := by omega
  rcases hk3 with rfl | rfl | rfl <;> rcases hj3 with rfl | rfl | rfl
  · rfl
  · simp [vstr, ed] at h; exact absurd h.1.symm kd.1
  · simp [vstr, qlit] at h
  · simp [vstr, ec] at h; exact absurd h.1 kc.1
  · rfl
  · simp [vstr, qlit, ec] at h; exact absurd h.1 kc.2
  · simp [vstr, qlit] at h
  · simp [vstr, qlit, ed] at h; exact absurd h.1.symm kd.2
  · rfl

theorem beq_lists (l m : List UInt8) (b : Bool) (h : l = m ↔ b = true) : (l == m) = b := by
  rw [Bool.eq_iff_iff, beq_iff_eq]
  exact h

set_option maxHeartbeats 1600000 in
theorem inj_core (k1 n1 k2 n2 : Int) (s1 s2 : ByteArray) (w : World) (ha0 : 0 ≤ k1) (ha : k1 ≤ 2) (hb0 : 0 ≤ k2) (hb : k2 ≤ 2) (hs1 : s1.size ≤ 1048576) (hs2 : (s2.size : Int) ≤ 1048576 - s1.size)
    (htab : Lib.TabIs Tryd.prog w tabName .u64 Lib.pow10Tab) (hA : Shown k1 n1 s1) (hB : Shown k2 n2 s2) :
    Calls Tryd.prog 4 #[.int .u8 k1, .int .i64 n1, .string s1, .int .u8 k2, .int .i64 n2, .string s2] w fun e w' => e = .returned (.bool true) ∧ Below w.heap.size w w' := by
  obtain ⟨V1, T1, m1, p1, e1, q1⟩ := hA
  obtain ⟨V2, T2, m2, p2, e2, q2⟩ := hB
  have E1 : Hid (T1.toList = vstr k1 n1 s1.data.toList) := by unfold Hid; rw [e1, list_of]
  have E2 : Hid (T2.toList = vstr k2 n2 s2.data.toList) := by unfold Hid; rw [e2, list_of]
  clear e1 e2
  have M1 : Hid (∀ w, Calls Tryd.prog 6 #[.int .u8 k1, .int .i64 n1, .string s1] w fun e w' => e = .returned V1 ∧ Below w.heap.size w w') := m1
  have M2 : Hid (∀ w, Calls Tryd.prog 6 #[.int .u8 k2, .int .i64 n2, .string s2] w fun e w' => e = .returned V2 ∧ Below w.heap.size w w') := m2
  have P1 : Hid (∀ w, Lib.TabIs Tryd.prog w tabName .u64 Lib.pow10Tab → Calls Tryd.prog 7 #[V1] w fun e w' => e = .returned (.string T1) ∧ Below w.heap.size w w') := p1
  have P2 : Hid (∀ w, Lib.TabIs Tryd.prog w tabName .u64 Lib.pow10Tab → Calls Tryd.prog 7 #[V2] w fun e w' => e = .returned (.string T2) ∧ Below w.heap.size w w') := p2
  have Q1 : Hid (∀ w, Calls Tryd.prog 11 #[.string T1] w fun e w' => e = .returned (.int .u8 k1) ∧ w' = w) := q1
  have Q2 : Hid (∀ w, Calls Tryd.prog 11 #[.string T2] w fun e w' => e = .returned (.int .u8 k2) ∧ w' = w) := q2
  have HT : Hid (Lib.TabIs Tryd.prog w tabName .u64 Lib.pow10Tab) := htab
  clear m1 m2 p1 p2 q1 q2 htab
  have hs3 : (s1.size : Int) ≤ 1048576 := by omega
  by_cases hk : k1 = k2
  · subst hk
    have hk3 : k1 = 0 ∨ k1 = 1 ∨ k1 = 2 := by omega
    rcases hk3 with rfl | rfl | rfl
    · have heq : (T1.toList == T2.toList) = true := by
        rw [E1.out, E2.out]
        rfl
      go_enter Tryd.func4, Tryd.ntmps4
      go_wp2_with fail
      refine (zzBytes10_any _ _ _ _ _ _ _).mono ?_
      rintro e w ⟨⟨r, rfl⟩, rfl⟩
      cases r
      · go_wp2
        go_ret
        exact ⟨rfl, Below.refl _ _⟩
      go_wp2_with fail
      refine (M1.out _).mono ?_
      rintro e w1 ⟨rfl, hb1⟩
      go_wp2_with fail
      refine (P1.out w1 (tab_later HT.out hb1)).mono ?_
      rintro e w2 ⟨rfl, hb2⟩
      have hb2' : Below w.heap.size w w2 := hb1.trans (hb2.mono hb1.size)
      go_wp2_with fail
      refine (M2.out _).mono ?_
      rintro e w3 ⟨rfl, hb3⟩
      have hb3' : Below w.heap.size w w3 := hb2'.trans (hb3.mono hb2'.size)
      go_wp2_with fail
      refine (P2.out w3 (tab_later HT.out hb3')).mono ?_
      rintro e w4 ⟨rfl, hb4⟩
      have hb4' : Below w.heap.size w w4 := hb3'.trans (hb4.mono hb3'.size)
      clear hb1 hb2 hb3 hb4 hb2' hb3'
      go_wp2_with fail
      refine (Q1.out _).mono ?_
      rintro e w4 ⟨rfl, rfl⟩
      go_wp2_with fail
      refine (Q2.out _).mono ?_
      rintro e w4 ⟨rfl, rfl⟩
      go_wp2_with fail
      go_ret
      exact ⟨rfl, hb4'⟩
    · have heq : (T1.toList == T2.toList) = (n1 == n2) := by
        rw [E1.out, E2.out]
        exact beq_lists _ _ _ ⟨fun h => by simpa using itoa_inj n1 n2 h, fun h => by have h2 : n1 = n2 := by simpa using h
                                                                                     rw [h2]; rfl⟩
      go_enter Tryd.func4, Tryd.ntmps4
      go_wp2_with fail
      refine (zzBytes10_any _ _ _ _ _ _ _).mono ?_
      rintro e w ⟨⟨r, rfl⟩, rfl⟩
      cases r
      · go_wp2
        go_ret
        exact ⟨rfl, Below.refl _ _⟩
      go_wp2_with fail
      refine (M1.out _).mono ?_
      rintro e w1 ⟨rfl, hb1⟩
      go_wp2_with fail
      refine (P1.out w1 (tab_later HT.out hb1)).mono ?_
      rintro e w2 ⟨rfl, hb2⟩
      have hb2' : Below w.heap.size w w2 := hb1.trans (hb2.mono hb1.size)
      go_wp2_with fail
      refine (M2.out _).mono ?_
      rintro e w3 ⟨rfl, hb3⟩
      have hb3' : Below w.heap.size w w3 := hb2'.trans (hb3.mono hb2'.size)
      go_wp2_with fail
      refine (P2.out w3 (tab_later HT.out hb3')).mono ?_
      rintro e w4 ⟨rfl, hb4⟩
      have hb4' : Below w.heap.size w w4 := hb3'.trans (hb4.mono hb3'.size)
      clear hb1 hb2 hb3 hb4 hb2' hb3'
      go_wp2_with fail
      refine (Q1.out _).mono ?_
      rintro e w4 ⟨rfl, rfl⟩
      go_wp2_with fail
      refine (Q2.out _).mono ?_
      rintro e w4 ⟨rfl, rfl⟩
      go_wp2_with fail
      go_ret
      exact ⟨rfl, hb4'⟩
    · have heq : (T1.toList == T2.toList) = (s1.toList == s2.toList) := by
        rw [E1.out, E2.out]
        exact beq_lists _ _ _ ⟨fun h => by rw [Lib.toList_data, Lib.toList_data, qlit_inj _ _ h]; simp, fun h => by
          rw [Lib.toList_data, Lib.toList_data, beq_iff_eq] at h
          rw [h]; rfl⟩
      go_enter Tryd.func4, Tryd.ntmps4
      go_wp2_with fail
      refine (zzBytes10_any _ _ _ _ _ _ _).mono ?_
      rintro e w ⟨⟨r, rfl⟩, rfl⟩
      cases r
      · go_wp2
        go_ret
        exact ⟨rfl, Below.refl _ _⟩
      go_wp2_with fail
      refine (M1.out _).mono ?_
      rintro e w1 ⟨rfl, hb1⟩
      go_wp2_with fail
      refine (P1.out w1 (tab_later HT.out hb1)).mono ?_
      rintro e w2 ⟨rfl, hb2⟩
      have hb2' : Below w.heap.size w w2 := hb1.trans (hb2.mono hb1.size)
      go_wp2_with fail
      refine (M2.out _).mono ?_
      rintro e w3 ⟨rfl, hb3⟩
      have hb3' : Below w.heap.size w w3 := hb2'.trans (hb3.mono hb2'.size)
      go_wp2_with fail
      refine (P2.out w3 (tab_later HT.out hb3')).mono ?_
      rintro e w4 ⟨rfl, hb4⟩
      have hb4' : Below w.heap.size w w4 := hb3'.trans (hb4.mono hb3'.size)
      clear hb1 hb2 hb3 hb4 hb2' hb3'
      go_wp2_with fail
      refine (Q1.out _).mono ?_
      rintro e w4 ⟨rfl, rfl⟩
      go_wp2_with fail
      refine (Q2.out _).mono ?_
      rintro e w4 ⟨rfl, rfl⟩
      go_wp2_with fail
      go_ret
      exact ⟨rfl, hb4'⟩
  · have hk' : (k1 == k2) = false := beq_eq_false_iff_ne.2 hk
    have hne : (T1.toList == T2.toList) = false := by
      rw [E1.out, E2.out]
      exact beq_eq_false_iff_ne.2 (fun h => hk (vstr_kind k1 n1 k2 n2 _ _ ha0 ha hb0 hb h))
    clear hk
    go_enter Tryd.func4, Tryd.ntmps4
    go_wp2_with fail
    refine (zzBytes10_any _ _ _ _ _ _ _).mono ?_
    rintro e w ⟨⟨r, rfl⟩, rfl⟩
    cases r
    · go_wp2
      go_ret
      exact ⟨rfl, Below.refl _ _⟩
    go_wp2_with fail
    refine (M1.out _).mono ?_
    rintro e w1 ⟨rfl, hb1⟩
    go_wp2_with fail
    refine (P1.out w1 (tab_later HT.out hb1)).mono ?_
    rintro e w2 ⟨rfl, hb2⟩
    have hb2' : Below w.heap.size w w2 := hb1.trans (hb2.mono hb1.size)
    go_wp2_with fail
    refine (M2.out _).mono ?_
    rintro e w3 ⟨rfl, hb3⟩
    have hb3' : Below w.heap.size w w3 := hb2'.trans (hb3.mono hb2'.size)
    go_wp2_with fail
    refine (P2.out w3 (tab_later HT.out hb3')).mono ?_
    rintro e w4 ⟨rfl, hb4⟩
    have hb4' : Below w.heap.size w w4 := hb3'.trans (hb4.mono hb3'.size)
    clear hb1 hb2 hb3 hb4 hb2' hb3'
    go_wp2_with fail
    refine (Q1.out _).mono ?_
    rintro e w4 ⟨rfl, rfl⟩
    go_wp2_with fail
    refine (Q2.out _).mono ?_
    rintro e w4 ⟨rfl, rfl⟩
    go_wp2_with fail
    go_ret
    exact ⟨rfl, hb4'⟩

set_option maxHeartbeats 800000 in
theorem inj_walk (k1 n1 k2 n2 : Int) (s1 s2 : ByteArray) (w : World) (ha0 : 0 ≤ k1) (hb0 : 0 ≤ k2) (hn1 : -9223372036854775808 ≤ n1 ∧ n1 ≤ 9223372036854775807) (hn2 : -9223372036854775808 ≤ n2 ∧ n2 ≤ 9223372036854775807)
    (htab : Lib.TabIs Tryd.prog w tabName .u64 Lib.pow10Tab) :
    Calls Tryd.prog 4 #[.int .u8 k1, .int .i64 n1, .string s1, .int .u8 k2, .int .i64 n2, .string s2] w fun e w' => e = .returned (.bool true) ∧ Below w.heap.size w w' := by
  by_cases g1 : s1.size ≤ 1048576
  · by_cases g2 : (s2.size : Int) ≤ 1048576 - s1.size
    · by_cases g3 : k1 ≤ 2
      · by_cases g4 : k2 ≤ 2
        · exact inj_core k1 n1 k2 n2 s1 s2 w ha0 g3 hb0 g4 g1 g2 htab (shown k1 n1 s1 ha0 g3 hn1.1 hn1.2 g1) (shown k2 n2 s2 hb0 g4 hn2.1 hn2.2 (by omega))
        · clear htab
          go_enter Tryd.func4, Tryd.ntmps4
          go_wp2_with fail
          refine (zzBytes10_any _ _ _ _ _ _ _).mono ?_
          rintro e w ⟨⟨r, rfl⟩, rfl⟩
          cases r <;> (go_wp2; go_ret; exact ⟨rfl, Below.refl _ _⟩)
      · clear htab
        go_enter Tryd.func4, Tryd.ntmps4
        go_wp2_with fail
        refine (zzBytes10_any _ _ _ _ _ _ _).mono ?_
        rintro e w ⟨⟨r, rfl⟩, rfl⟩
        cases r <;> (go_wp2; go_ret; exact ⟨rfl, Below.refl _ _⟩)
    · clear htab
      go_enter Tryd.func4, Tryd.ntmps4
      go_wp2_with fail
      refine (zzBytes10_any _ _ _ _ _ _ _).mono ?_
      rintro e w ⟨⟨r, rfl⟩, rfl⟩
      cases r <;> (go_wp2; go_ret; exact ⟨rfl, Below.refl _ _⟩)
  · clear htab
    go_enter Tryd.func4, Tryd.ntmps4
    go_wp2_with fail
    refine (zzBytes10_any _ _ _ _ _ _ _).mono ?_
    rintro e w ⟨⟨r, rfl⟩, rfl⟩
    cases r <;> (go_wp2; go_ret; exact ⟨rfl, Below.refl _ _⟩)

end Go.Proofs.Qxb6628612aDoor
