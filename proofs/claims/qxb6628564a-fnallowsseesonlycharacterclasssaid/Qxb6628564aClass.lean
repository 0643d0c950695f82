/-
  FnAllowsSeesOnlyCharacterClass (3): the contracts of charClass (6), textType (8), classAnchor (7), and the walk.
-/
import Derived.Test.Qxb6628564aAllows
namespace Go.Proofs.Qxb6628564a
open Go.RowKit

/-- What charClass answers. -/
def cls (c : Int) : Int :=
  if c < 32 ∨ 126 < c then 0 else if 48 ≤ c ∧ c ≤ 57 then 1 else if (65 ≤ c ∧ c ≤ 90) ∨ (97 ≤ c ∧ c ≤ 122) then 2
  else if c = 32 then 3 else if c = 45 then 4 else if c = 42 then 5 else if c = 47 then 6 else 7

theorem ret_int {k : IntKind} {a b : Int} (h : a = b) : Ending.returned (.int k a) = .returned (.int k b) := by rw [h]

theorem class_lo (c : Int) (w : World) (h1 : c ≤ 31) : Calls Try.prog 6 #[.int .i32 c] w fun e w' => e = .returned (.int .i64 (cls c)) ∧ w' = w := by
  have hk : cls c = 0 := by simp only [cls]; split <;> (try split) <;> (try split) <;> (try split) <;> (try split) <;> (try split) <;> (try split) <;> omega
  rw [hk]
  clear hk
  have e0 : (c == 32) = false := by simp; omega
  have e1 : (c == 45) = false := by simp; omega
  have e2 : (c == 42) = false := by simp; omega
  have e3 : (c == 47) = false := by simp; omega
  go_enter Try.func6, Try.ntmps6
  go_wp2
  go_ret
  exact ⟨rfl, rfl⟩

theorem class_r1 (c : Int) (w : World) (h0 : 33 ≤ c) (h1 : c ≤ 41) : Calls Try.prog 6 #[.int .i32 c] w fun e w' => e = .returned (.int .i64 (cls c)) ∧ w' = w := by
  have hk : cls c = 7 := by simp only [cls]; split <;> (try split) <;> (try split) <;> (try split) <;> (try split) <;> (try split) <;> (try split) <;> omega
  rw [hk]
  clear hk
  have e0 : (c == 32) = false := by simp; omega
  have e1 : (c == 45) = false := by simp; omega
  have e2 : (c == 42) = false := by simp; omega
  have e3 : (c == 47) = false := by simp; omega
  go_enter Try.func6, Try.ntmps6
  go_wp2
  go_ret
  exact ⟨rfl, rfl⟩

theorem class_r2 (c : Int) (w : World) (h0 : 43 ≤ c) (h1 : c ≤ 44) : Calls Try.prog 6 #[.int .i32 c] w fun e w' => e = .returned (.int .i64 (cls c)) ∧ w' = w := by
  have hk : cls c = 7 := by simp only [cls]; split <;> (try split) <;> (try split) <;> (try split) <;> (try split) <;> (try split) <;> (try split) <;> omega
  rw [hk]
  clear hk
  have e0 : (c == 32) = false := by simp; omega
  have e1 : (c == 45) = false := by simp; omega
  have e2 : (c == 42) = false := by simp; omega
  have e3 : (c == 47) = false := by simp; omega
  go_enter Try.func6, Try.ntmps6
  go_wp2
  go_ret
  exact ⟨rfl, rfl⟩

theorem class_r3 (c : Int) (w : World) (h0 : c = 46) : Calls Try.prog 6 #[.int .i32 c] w fun e w' => e = .returned (.int .i64 (cls c)) ∧ w' = w := by
  have hk : cls c = 7 := by simp only [cls]; subst h0; rfl
  rw [hk]
  clear hk
  subst h0
  go_enter Try.func6, Try.ntmps6
  go_wp2
  go_ret
  exact ⟨rfl, rfl⟩

theorem class_dg (c : Int) (w : World) (h0 : 48 ≤ c) (h1 : c ≤ 57) : Calls Try.prog 6 #[.int .i32 c] w fun e w' => e = .returned (.int .i64 (cls c)) ∧ w' = w := by
  have hk : cls c = 1 := by simp only [cls]; split <;> (try split) <;> (try split) <;> (try split) <;> (try split) <;> (try split) <;> (try split) <;> omega
  rw [hk]
  clear hk
  have e0 : (c == 32) = false := by simp; omega
  have e1 : (c == 45) = false := by simp; omega
  have e2 : (c == 42) = false := by simp; omega
  have e3 : (c == 47) = false := by simp; omega
  go_enter Try.func6, Try.ntmps6
  go_wp2
  go_ret
  exact ⟨rfl, rfl⟩

theorem class_r4 (c : Int) (w : World) (h0 : 58 ≤ c) (h1 : c ≤ 64) : Calls Try.prog 6 #[.int .i32 c] w fun e w' => e = .returned (.int .i64 (cls c)) ∧ w' = w := by
  have hk : cls c = 7 := by simp only [cls]; split <;> (try split) <;> (try split) <;> (try split) <;> (try split) <;> (try split) <;> (try split) <;> omega
  rw [hk]
  clear hk
  have e0 : (c == 32) = false := by simp; omega
  have e1 : (c == 45) = false := by simp; omega
  have e2 : (c == 42) = false := by simp; omega
  have e3 : (c == 47) = false := by simp; omega
  go_enter Try.func6, Try.ntmps6
  go_wp2
  go_ret
  exact ⟨rfl, rfl⟩

theorem class_up (c : Int) (w : World) (h0 : 65 ≤ c) (h1 : c ≤ 90) : Calls Try.prog 6 #[.int .i32 c] w fun e w' => e = .returned (.int .i64 (cls c)) ∧ w' = w := by
  have hk : cls c = 2 := by simp only [cls]; split <;> (try split) <;> (try split) <;> (try split) <;> (try split) <;> (try split) <;> (try split) <;> omega
  rw [hk]
  clear hk
  have e0 : (c == 32) = false := by simp; omega
  have e1 : (c == 45) = false := by simp; omega
  have e2 : (c == 42) = false := by simp; omega
  have e3 : (c == 47) = false := by simp; omega
  go_enter Try.func6, Try.ntmps6
  go_wp2
  go_ret
  exact ⟨rfl, rfl⟩

theorem class_r5 (c : Int) (w : World) (h0 : 91 ≤ c) (h1 : c ≤ 96) : Calls Try.prog 6 #[.int .i32 c] w fun e w' => e = .returned (.int .i64 (cls c)) ∧ w' = w := by
  have hk : cls c = 7 := by simp only [cls]; split <;> (try split) <;> (try split) <;> (try split) <;> (try split) <;> (try split) <;> (try split) <;> omega
  rw [hk]
  clear hk
  have e0 : (c == 32) = false := by simp; omega
  have e1 : (c == 45) = false := by simp; omega
  have e2 : (c == 42) = false := by simp; omega
  have e3 : (c == 47) = false := by simp; omega
  go_enter Try.func6, Try.ntmps6
  go_wp2
  go_ret
  exact ⟨rfl, rfl⟩

theorem class_lw (c : Int) (w : World) (h0 : 97 ≤ c) (h1 : c ≤ 122) : Calls Try.prog 6 #[.int .i32 c] w fun e w' => e = .returned (.int .i64 (cls c)) ∧ w' = w := by
  have hk : cls c = 2 := by simp only [cls]; split <;> (try split) <;> (try split) <;> (try split) <;> (try split) <;> (try split) <;> (try split) <;> omega
  rw [hk]
  clear hk
  have e0 : (c == 32) = false := by simp; omega
  have e1 : (c == 45) = false := by simp; omega
  have e2 : (c == 42) = false := by simp; omega
  have e3 : (c == 47) = false := by simp; omega
  go_enter Try.func6, Try.ntmps6
  go_wp2
  go_ret
  exact ⟨rfl, rfl⟩

theorem class_r6 (c : Int) (w : World) (h0 : 123 ≤ c) (h1 : c ≤ 126) : Calls Try.prog 6 #[.int .i32 c] w fun e w' => e = .returned (.int .i64 (cls c)) ∧ w' = w := by
  have hk : cls c = 7 := by simp only [cls]; split <;> (try split) <;> (try split) <;> (try split) <;> (try split) <;> (try split) <;> (try split) <;> omega
  rw [hk]
  clear hk
  have e0 : (c == 32) = false := by simp; omega
  have e1 : (c == 45) = false := by simp; omega
  have e2 : (c == 42) = false := by simp; omega
  have e3 : (c == 47) = false := by simp; omega
  go_enter Try.func6, Try.ntmps6
  go_wp2
  go_ret
  exact ⟨rfl, rfl⟩

theorem class_hi (c : Int) (w : World) (h0 : 127 ≤ c) : Calls Try.prog 6 #[.int .i32 c] w fun e w' => e = .returned (.int .i64 (cls c)) ∧ w' = w := by
  have hk : cls c = 0 := by simp only [cls]; split <;> (try split) <;> (try split) <;> (try split) <;> (try split) <;> (try split) <;> (try split) <;> omega
  rw [hk]
  clear hk
  have e0 : (c == 32) = false := by simp; omega
  have e1 : (c == 45) = false := by simp; omega
  have e2 : (c == 42) = false := by simp; omega
  have e3 : (c == 47) = false := by simp; omega
  go_enter Try.func6, Try.ntmps6
  go_wp2
  go_ret
  exact ⟨rfl, rfl⟩

theorem class_c32 (c : Int) (w : World) (h0 : c = 32) : Calls Try.prog 6 #[.int .i32 c] w fun e w' => e = .returned (.int .i64 (cls c)) ∧ w' = w := by
  have hk : cls c = 3 := by simp only [cls]; subst h0; rfl
  rw [hk]
  clear hk
  subst h0
  go_enter Try.func6, Try.ntmps6
  go_wp2
  go_ret
  exact ⟨rfl, rfl⟩

theorem class_c42 (c : Int) (w : World) (h0 : c = 42) : Calls Try.prog 6 #[.int .i32 c] w fun e w' => e = .returned (.int .i64 (cls c)) ∧ w' = w := by
  have hk : cls c = 5 := by simp only [cls]; subst h0; rfl
  rw [hk]
  clear hk
  subst h0
  go_enter Try.func6, Try.ntmps6
  go_wp2
  go_ret
  exact ⟨rfl, rfl⟩

theorem class_c45 (c : Int) (w : World) (h0 : c = 45) : Calls Try.prog 6 #[.int .i32 c] w fun e w' => e = .returned (.int .i64 (cls c)) ∧ w' = w := by
  have hk : cls c = 4 := by simp only [cls]; subst h0; rfl
  rw [hk]
  clear hk
  subst h0
  go_enter Try.func6, Try.ntmps6
  go_wp2
  go_ret
  exact ⟨rfl, rfl⟩

theorem class_c47 (c : Int) (w : World) (h0 : c = 47) : Calls Try.prog 6 #[.int .i32 c] w fun e w' => e = .returned (.int .i64 (cls c)) ∧ w' = w := by
  have hk : cls c = 6 := by simp only [cls]; subst h0; rfl
  rw [hk]
  clear hk
  subst h0
  go_enter Try.func6, Try.ntmps6
  go_wp2
  go_ret
  exact ⟨rfl, rfl⟩

theorem class_any (c : Int) (w : World) : Calls Try.prog 6 #[.int .i32 c] w fun e w' => e = .returned (.int .i64 (cls c)) ∧ w' = w := by
  by_cases g1 : c ≤ 31
  · exact class_lo c w g1
  by_cases g2 : 127 ≤ c
  · exact class_hi c w g2
  by_cases s1 : c = 32
  · exact class_c32 c w s1
  by_cases s2 : c = 42
  · exact class_c42 c w s2
  by_cases s3 : c = 45
  · exact class_c45 c w s3
  by_cases s4 : c = 46
  · exact class_r3 c w s4
  by_cases s5 : c = 47
  · exact class_c47 c w s5
  by_cases i1 : c ≤ 41
  · exact class_r1 c w (by omega) i1
  by_cases i2 : c ≤ 44
  · exact class_r2 c w (by omega) i2
  by_cases i3 : c ≤ 57
  · exact class_dg c w (by omega) i3
  by_cases i4 : c ≤ 64
  · exact class_r4 c w (by omega) i4
  by_cases i5 : c ≤ 90
  · exact class_up c w (by omega) i5
  by_cases i6 : c ≤ 96
  · exact class_r5 c w (by omega) i6
  by_cases i7 : c ≤ 122
  · exact class_lw c w (by omega) i7
  exact class_r6 c w (by omega) (by omega)

/-- textType -/
def txt (t : Int) : Bool := decide (1 ≤ t ∧ t ≤ 9)
theorem text_any (t : Int) (w : World) : Calls Try.prog 8 #[.int .i64 t] w fun e w' => e = .returned (.bool (txt t)) ∧ w' = w := by
  by_cases h1 : 1 ≤ t
  · by_cases h2 : t ≤ 9
    · go_enter Try.func8, Try.ntmps8
      go_wp2
      go_ret
      exact ⟨ret_bool (by simp [txt]; omega), rfl⟩
    · go_enter Try.func8, Try.ntmps8
      go_wp2
      go_ret
      exact ⟨ret_bool (by simp [txt]; omega), rfl⟩
  · go_enter Try.func8, Try.ntmps8
    go_wp2
    go_ret
    exact ⟨ret_bool (by simp [txt]; omega), rfl⟩

/-- classAnchor -/
def anc (t k : Int) (g : Bool) : Bool := if k = 0 then g == !(txt t) else if k = 1 then g == (t != 2 && t != 9) else true
theorem anchor_any (t k : Int) (g : Bool) (w : World) : Calls Try.prog 7 #[.int .i64 t, .int .i64 k, .bool g] w fun e w' => e = .returned (.bool (anc t k g)) ∧ w' = w := by
  by_cases h0 : k = 0
  · subst h0
    go_enter Try.func7, Try.ntmps7
    go_wp2_with (go_at_call 8; refine (text_any _ _).mono ?_; rintro e w' ⟨rfl, rfl⟩)
    go_ret
    exact ⟨ret_bool (by simp [anc]), rfl⟩
  · have e0 : (k == 0) = false := by simp; omega
    by_cases h1 : k = 1
    · subst h1
      by_cases h2 : t = 2
      · subst h2
        go_enter Try.func7, Try.ntmps7
        go_wp2
        go_ret
        exact ⟨ret_bool (by simp [anc]), rfl⟩
      · have e2 : (t != 2) = true := by simp; omega
        go_enter Try.func7, Try.ntmps7
        go_wp2
        go_ret
        exact ⟨ret_bool (by simp [anc, e2]), rfl⟩
    · have e1 : (k == 1) = false := by simp; omega
      go_enter Try.func7, Try.ntmps7
      go_wp2
      go_ret
      exact ⟨ret_bool (by simp [anc, h0, h1]), rfl⟩

/-! ### THE PLAIN LAW: Allows sees the class alone. -/
def alwK (t k : Int) : Bool :=
  if t = 1 then k == 1 else if t = 2 then k == 2 || k == 3 else if t = 3 then k == 2 || k == 1 || k == 3 else if t = 4 then k != 0
  else if t = 5 then k == 1 || k == 3 else if t = 6 then k != 0 && !(k == 2) else if t = 7 then k == 1 || k == 3 || k == 4 || k == 5
  else if t = 8 then k == 1 || k == 3 || k == 4 || k == 5 || k == 6 else if t = 9 then k == 3 else true

theorem cls_cases (c : Int) :
    (cls c = 0 ∧ (c < 32 ∨ 126 < c)) ∨ (cls c = 1 ∧ 48 ≤ c ∧ c ≤ 57) ∨ (cls c = 2 ∧ ((65 ≤ c ∧ c ≤ 90) ∨ (97 ≤ c ∧ c ≤ 122))) ∨ (cls c = 3 ∧ c = 32) ∨ (cls c = 4 ∧ c = 45) ∨ (cls c = 5 ∧ c = 42) ∨ (cls c = 6 ∧ c = 47) ∨
    (cls c = 7 ∧ 32 ≤ c ∧ c ≤ 126 ∧ ¬ (48 ≤ c ∧ c ≤ 57) ∧ ¬ ((65 ≤ c ∧ c ≤ 90) ∨ (97 ≤ c ∧ c ≤ 122)) ∧ c ≠ 32 ∧ c ≠ 45 ∧ c ≠ 42 ∧ c ≠ 47) := by
  unfold cls
  split
  · omega
  split
  · omega
  split
  · omega
  split
  · omega
  split
  · omega
  split
  · omega
  split <;> omega

theorem k_dig (c : Int) : dig c = (cls c == 1) := by
  have h := cls_cases c
  rw [Bool.eq_iff_iff]; simp [dig]; omega
theorem k_ltr (c : Int) : ltr c = (cls c == 2) := by
  have h := cls_cases c
  rw [Bool.eq_iff_iff]; simp [ltr]; omega
theorem k_prn (c : Int) : prn c = (cls c != 0) := by
  have h := cls_cases c
  rw [Bool.eq_iff_iff]; simp [prn]; omega
theorem k_32 (c : Int) : (c == 32) = (cls c == 3) := by
  have h := cls_cases c
  rw [Bool.eq_iff_iff]; simp; omega
theorem k_45 (c : Int) : (c == 45) = (cls c == 4) := by
  have h := cls_cases c
  rw [Bool.eq_iff_iff]; simp; omega
theorem k_42 (c : Int) : (c == 42) = (cls c == 5) := by
  have h := cls_cases c
  rw [Bool.eq_iff_iff]; simp; omega
theorem k_47 (c : Int) : (c == 47) = (cls c == 6) := by
  have h := cls_cases c
  rw [Bool.eq_iff_iff]; simp; omega

theorem alw_cls (t c : Int) : alw t c = alwK t (cls c) := by
  unfold alw alwK mic
  rw [k_dig, k_ltr, k_prn, k_32, k_45, k_42, k_47]

theorem anc_all (t k : Int) : anc t k (alwK t k) = true := by
  unfold anc
  by_cases h0 : k = 0
  · subst h0
    simp only [alwK, txt]
    by_cases h : 1 ≤ t ∧ t ≤ 9
    · have : t = 1 ∨ t = 2 ∨ t = 3 ∨ t = 4 ∨ t = 5 ∨ t = 6 ∨ t = 7 ∨ t = 8 ∨ t = 9 := by omega
      rcases this with h | h | h | h | h | h | h | h | h <;> subst h <;> decide
    · have e1 : ¬ t = 1 := by omega
      have e2 : ¬ t = 2 := by omega
      have e3 : ¬ t = 3 := by omega
      have e4 : ¬ t = 4 := by omega
      have e5 : ¬ t = 5 := by omega
      have e6 : ¬ t = 6 := by omega
      have e7 : ¬ t = 7 := by omega
      have e8 : ¬ t = 8 := by omega
      have e9 : ¬ t = 9 := by omega
      simp [e1, e2, e3, e4, e5, e6, e7, e8, e9, h]
  · by_cases h1 : k = 1
    · subst h1
      simp only [alwK]
      by_cases h : 1 ≤ t ∧ t ≤ 9
      · have : t = 1 ∨ t = 2 ∨ t = 3 ∨ t = 4 ∨ t = 5 ∨ t = 6 ∨ t = 7 ∨ t = 8 ∨ t = 9 := by omega
        rcases this with h | h | h | h | h | h | h | h | h <;> subst h <;> decide
      · have e1 : ¬ t = 1 := by omega
        have e2 : ¬ t = 2 := by omega
        have e3 : ¬ t = 3 := by omega
        have e4 : ¬ t = 4 := by omega
        have e5 : ¬ t = 5 := by omega
        have e6 : ¬ t = 6 := by omega
        have e7 : ¬ t = 7 := by omega
        have e8 : ¬ t = 8 := by omega
        have e9 : ¬ t = 9 := by omega
        simp [e1, e2, e3, e4, e5, e6, e7, e8, e9]
    · rw [if_neg h0, if_neg h1]

/-- classAnchor at what Allows answers. -/
theorem anchor_true (t k : Int) (w : World) : Calls Try.prog 7 #[.int .i64 t, .int .i64 k, .bool (alwK t k)] w fun e w' => e = .returned (.bool true) ∧ w' = w := by
  have h := anchor_any t k (alwK t k) w
  rw [anc_all] at h
  exact h
theorem allows_k (t c : Int) (w : World) : Calls Try.prog 5 #[.int .i64 t, .int .i32 c] w fun e w' => e = .returned (.bool (alwK t (cls c))) ∧ w' = w := by
  have h := allows_any t c w
  rw [alw_cls] at h
  exact h

set_option maxHeartbeats 800000 in
theorem class_walk (t c d : Int) (w : World) : Calls Try.prog 3 #[.int .i64 t, .int .i32 c, .int .i32 d] w fun e w' => e = .returned (.bool true) ∧ w' = w := by
  have h1 := fun w => allows_k t c w
  have h2 := fun w => allows_k t d w
  have h3 := fun w => class_any c w
  have h4 := fun w => class_any d w
  generalize cls c = k at h1 h3
  generalize cls d = l at h2 h4
  have H1 : Hid (∀ w, Calls Try.prog 5 #[.int .i64 t, .int .i32 c] w fun e w' => e = .returned (.bool (alwK t k)) ∧ w' = w) := h1
  have H2 : Hid (∀ w, Calls Try.prog 5 #[.int .i64 t, .int .i32 d] w fun e w' => e = .returned (.bool (alwK t l)) ∧ w' = w) := h2
  have H3 : Hid (∀ w, Calls Try.prog 6 #[.int .i32 c] w fun e w' => e = .returned (.int .i64 k) ∧ w' = w) := h3
  have H4 : Hid (∀ w, Calls Try.prog 6 #[.int .i32 d] w fun e w' => e = .returned (.int .i64 l) ∧ w' = w) := h4
  clear h1 h2 h3 h4
  by_cases hk : k = l
  · subst hk
    go_enter Try.func3, Try.ntmps3
    go_wp2_with fail
    refine (H1.out _).mono ?_
    rintro e w ⟨rfl, rfl⟩
    go_wp2_with fail
    refine (H2.out _).mono ?_
    rintro e w ⟨rfl, rfl⟩
    go_wp2_with fail
    refine (H3.out _).mono ?_
    rintro e w ⟨rfl, rfl⟩
    go_wp2_with fail
    refine (H4.out _).mono ?_
    rintro e w ⟨rfl, rfl⟩
    go_wp2_with fail
    refine (anchor_true _ _ _).mono ?_
    rintro e w ⟨rfl, rfl⟩
    go_wp2_with fail
    refine (anchor_true _ _ _).mono ?_
    rintro e w ⟨rfl, rfl⟩
    go_wp2_with fail
    go_ret
    exact ⟨rfl, rfl⟩
  · have hk' : (k == l) = false := by simp [hk]
    clear hk
    go_enter Try.func3, Try.ntmps3
    go_wp2_with fail
    refine (H1.out _).mono ?_
    rintro e w ⟨rfl, rfl⟩
    go_wp2_with fail
    refine (H2.out _).mono ?_
    rintro e w ⟨rfl, rfl⟩
    go_wp2_with fail
    refine (H3.out _).mono ?_
    rintro e w ⟨rfl, rfl⟩
    go_wp2_with fail
    refine (H4.out _).mono ?_
    rintro e w ⟨rfl, rfl⟩
    go_wp2_with fail
    refine (anchor_true _ _ _).mono ?_
    rintro e w ⟨rfl, rfl⟩
    go_wp2_with fail
    refine (anchor_true _ _ _).mono ?_
    rintro e w ⟨rfl, rfl⟩
    go_wp2_with fail
    go_ret
    exact ⟨rfl, rfl⟩

end Go.Proofs.Qxb6628564a
