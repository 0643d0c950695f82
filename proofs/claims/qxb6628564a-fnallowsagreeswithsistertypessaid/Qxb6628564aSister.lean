/-
  THE WALK OF FnAllowsAgreesWithSisterTypes (4), class of characters by class.
-/
import Derived.Test.Qxb6628564aAllows
namespace Go.Proofs.Qxb6628564a
open Go.RowKit
set_option linter.unusedSimpArgs false

set_option maxHeartbeats 1600000 in
set_option maxRecDepth 100000 in
theorem sister_lo (t c : Int) (w : World) (h1 : c < 32) (hd : dig c = false) (hl : ltr c = false) (hp : prn c = false) (e1 : (c == 32) = false) (e2 : (c == 45) = false) (e3 : (c == 42) = false) (e4 : (c == 47) = false) :
    Calls Try.prog 4 #[.int .i64 t, .int .i32 c] w fun e w' => e = .returned (.bool true) ∧ w' = w := by
  have hm : mic c = false := by simp [mic, hd, e1, e2, e3]
  have a1 : alw 1 c = false := by simp [alw, hd, hl, hp, hm, e1, e4]
  have a2 : alw 2 c = false := by simp [alw, hd, hl, hp, hm, e1, e4]
  have a3 : alw 3 c = false := by simp [alw, hd, hl, hp, hm, e1, e4]
  have a4 : alw 4 c = false := by simp [alw, hd, hl, hp, hm, e1, e4]
  have a5 : alw 5 c = false := by simp [alw, hd, hl, hp, hm, e1, e4]
  have a6 : alw 6 c = false := by simp [alw, hd, hl, hp, hm, e1, e4]
  have a7 : alw 7 c = false := by simp [alw, hd, hl, hp, hm, e1, e4]
  have a8 : alw 8 c = false := by simp [alw, hd, hl, hp, hm, e1, e4]
  have a9 : alw 9 c = false := by simp [alw, hd, hl, hp, hm, e1, e4]
  go_enter Try.func4, Try.ntmps4
  go_wp2_with (go_at_call 5; refine (allows_any _ _ _).mono ?_; rintro e w' ⟨rfl, rfl⟩)
  all_goals first
    | (go_ret; exact ⟨rfl, rfl⟩)
    | (exfalso; simp_all [alw])

set_option maxHeartbeats 1600000 in
set_option maxRecDepth 100000 in
theorem sister_hi (t c : Int) (w : World) (h1 : 126 < c) (hd : dig c = false) (hl : ltr c = false) (hp : prn c = false) (e1 : (c == 32) = false) (e2 : (c == 45) = false) (e3 : (c == 42) = false) (e4 : (c == 47) = false) :
    Calls Try.prog 4 #[.int .i64 t, .int .i32 c] w fun e w' => e = .returned (.bool true) ∧ w' = w := by
  have hm : mic c = false := by simp [mic, hd, e1, e2, e3]
  have a1 : alw 1 c = false := by simp [alw, hd, hl, hp, hm, e1, e4]
  have a2 : alw 2 c = false := by simp [alw, hd, hl, hp, hm, e1, e4]
  have a3 : alw 3 c = false := by simp [alw, hd, hl, hp, hm, e1, e4]
  have a4 : alw 4 c = false := by simp [alw, hd, hl, hp, hm, e1, e4]
  have a5 : alw 5 c = false := by simp [alw, hd, hl, hp, hm, e1, e4]
  have a6 : alw 6 c = false := by simp [alw, hd, hl, hp, hm, e1, e4]
  have a7 : alw 7 c = false := by simp [alw, hd, hl, hp, hm, e1, e4]
  have a8 : alw 8 c = false := by simp [alw, hd, hl, hp, hm, e1, e4]
  have a9 : alw 9 c = false := by simp [alw, hd, hl, hp, hm, e1, e4]
  have q1 : decide (c ≤ 126) = false := decide_eq_false (by omega)
  go_enter Try.func4, Try.ntmps4
  go_wp2_with (go_at_call 5; refine (allows_any _ _ _).mono ?_; rintro e w' ⟨rfl, rfl⟩)
  all_goals first
    | (go_ret; exact ⟨rfl, rfl⟩)
    | (go_ret; exact ⟨ret_bool (by simp; omega), rfl⟩)
    | (exfalso; simp_all [alw])

set_option maxHeartbeats 1600000 in
set_option maxRecDepth 100000 in
theorem sister_dg (t c : Int) (w : World) (h0 : 32 ≤ c) (h1 : c ≤ 126) (hd : dig c = true) (hl : ltr c = false) (hp : prn c = true) (e1 : (c == 32) = false) (e2 : (c == 45) = false) (e3 : (c == 42) = false) (e4 : (c == 47) = false) :
    Calls Try.prog 4 #[.int .i64 t, .int .i32 c] w fun e w' => e = .returned (.bool true) ∧ w' = w := by
  have hm : mic c = true := by simp [mic, hd, e1, e2, e3]
  have a1 : alw 1 c = true := by simp [alw, hd, hl, hp, hm, e1, e4]
  have a2 : alw 2 c = false := by simp [alw, hd, hl, hp, hm, e1, e4]
  have a3 : alw 3 c = true := by simp [alw, hd, hl, hp, hm, e1, e4]
  have a4 : alw 4 c = true := by simp [alw, hd, hl, hp, hm, e1, e4]
  have a5 : alw 5 c = true := by simp [alw, hd, hl, hp, hm, e1, e4]
  have a6 : alw 6 c = true := by simp [alw, hd, hl, hp, hm, e1, e4]
  have a7 : alw 7 c = true := by simp [alw, hd, hl, hp, hm, e1, e4]
  have a8 : alw 8 c = true := by simp [alw, hd, hl, hp, hm, e1, e4]
  have a9 : alw 9 c = false := by simp [alw, hd, hl, hp, hm, e1, e4]
  go_enter Try.func4, Try.ntmps4
  go_wp2_with (go_at_call 5; refine (allows_any _ _ _).mono ?_; rintro e w' ⟨rfl, rfl⟩)
  all_goals first
    | (go_ret; exact ⟨rfl, rfl⟩)
    | (exfalso; simp_all [alw])

set_option maxHeartbeats 1600000 in
set_option maxRecDepth 100000 in
theorem sister_lt (t c : Int) (w : World) (h0 : 32 ≤ c) (h1 : c ≤ 126) (hd : dig c = false) (hl : ltr c = true) (hp : prn c = true) (e1 : (c == 32) = false) (e2 : (c == 45) = false) (e3 : (c == 42) = false) (e4 : (c == 47) = false) :
    Calls Try.prog 4 #[.int .i64 t, .int .i32 c] w fun e w' => e = .returned (.bool true) ∧ w' = w := by
  have hm : mic c = false := by simp [mic, hd, e1, e2, e3]
  have a1 : alw 1 c = false := by simp [alw, hd, hl, hp, hm, e1, e4]
  have a2 : alw 2 c = true := by simp [alw, hd, hl, hp, hm, e1, e4]
  have a3 : alw 3 c = true := by simp [alw, hd, hl, hp, hm, e1, e4]
  have a4 : alw 4 c = true := by simp [alw, hd, hl, hp, hm, e1, e4]
  have a5 : alw 5 c = false := by simp [alw, hd, hl, hp, hm, e1, e4]
  have a6 : alw 6 c = false := by simp [alw, hd, hl, hp, hm, e1, e4]
  have a7 : alw 7 c = false := by simp [alw, hd, hl, hp, hm, e1, e4]
  have a8 : alw 8 c = false := by simp [alw, hd, hl, hp, hm, e1, e4]
  have a9 : alw 9 c = false := by simp [alw, hd, hl, hp, hm, e1, e4]
  go_enter Try.func4, Try.ntmps4
  go_wp2_with (go_at_call 5; refine (allows_any _ _ _).mono ?_; rintro e w' ⟨rfl, rfl⟩)
  all_goals first
    | (go_ret; exact ⟨rfl, rfl⟩)
    | (exfalso; simp_all [alw])

set_option maxHeartbeats 1600000 in
set_option maxRecDepth 100000 in
theorem sister_sp (t c : Int) (w : World) (h0 : 32 ≤ c) (h1 : c ≤ 126) (hd : dig c = false) (hl : ltr c = false) (hp : prn c = true) (e1 : (c == 32) = true) (e2 : (c == 45) = false) (e3 : (c == 42) = false) (e4 : (c == 47) = false) :
    Calls Try.prog 4 #[.int .i64 t, .int .i32 c] w fun e w' => e = .returned (.bool true) ∧ w' = w := by
  have hm : mic c = true := by simp [mic, hd, e1, e2, e3]
  have a1 : alw 1 c = false := by simp [alw, hd, hl, hp, hm, e1, e4]
  have a2 : alw 2 c = true := by simp [alw, hd, hl, hp, hm, e1, e4]
  have a3 : alw 3 c = true := by simp [alw, hd, hl, hp, hm, e1, e4]
  have a4 : alw 4 c = true := by simp [alw, hd, hl, hp, hm, e1, e4]
  have a5 : alw 5 c = true := by simp [alw, hd, hl, hp, hm, e1, e4]
  have a6 : alw 6 c = true := by simp [alw, hd, hl, hp, hm, e1, e4]
  have a7 : alw 7 c = true := by simp [alw, hd, hl, hp, hm, e1, e4]
  have a8 : alw 8 c = true := by simp [alw, hd, hl, hp, hm, e1, e4]
  have a9 : alw 9 c = true := by simp [alw, hd, hl, hp, hm, e1, e4]
  go_enter Try.func4, Try.ntmps4
  go_wp2_with (go_at_call 5; refine (allows_any _ _ _).mono ?_; rintro e w' ⟨rfl, rfl⟩)
  all_goals first
    | (go_ret; exact ⟨rfl, rfl⟩)
    | (exfalso; simp_all [alw])

set_option maxHeartbeats 1600000 in
set_option maxRecDepth 100000 in
theorem sister_da (t c : Int) (w : World) (h0 : 32 ≤ c) (h1 : c ≤ 126) (hd : dig c = false) (hl : ltr c = false) (hp : prn c = true) (e1 : (c == 32) = false) (e2 : (c == 45) = true) (e3 : (c == 42) = false) (e4 : (c == 47) = false) :
    Calls Try.prog 4 #[.int .i64 t, .int .i32 c] w fun e w' => e = .returned (.bool true) ∧ w' = w := by
  have hm : mic c = true := by simp [mic, hd, e1, e2, e3]
  have a1 : alw 1 c = false := by simp [alw, hd, hl, hp, hm, e1, e4]
  have a2 : alw 2 c = false := by simp [alw, hd, hl, hp, hm, e1, e4]
  have a3 : alw 3 c = false := by simp [alw, hd, hl, hp, hm, e1, e4]
  have a4 : alw 4 c = true := by simp [alw, hd, hl, hp, hm, e1, e4]
  have a5 : alw 5 c = false := by simp [alw, hd, hl, hp, hm, e1, e4]
  have a6 : alw 6 c = true := by simp [alw, hd, hl, hp, hm, e1, e4]
  have a7 : alw 7 c = true := by simp [alw, hd, hl, hp, hm, e1, e4]
  have a8 : alw 8 c = true := by simp [alw, hd, hl, hp, hm, e1, e4]
  have a9 : alw 9 c = false := by simp [alw, hd, hl, hp, hm, e1, e4]
  go_enter Try.func4, Try.ntmps4
  go_wp2_with (go_at_call 5; refine (allows_any _ _ _).mono ?_; rintro e w' ⟨rfl, rfl⟩)
  all_goals first
    | (go_ret; exact ⟨rfl, rfl⟩)
    | (exfalso; simp_all [alw])

set_option maxHeartbeats 1600000 in
set_option maxRecDepth 100000 in
theorem sister_st (t c : Int) (w : World) (h0 : 32 ≤ c) (h1 : c ≤ 126) (hd : dig c = false) (hl : ltr c = false) (hp : prn c = true) (e1 : (c == 32) = false) (e2 : (c == 45) = false) (e3 : (c == 42) = true) (e4 : (c == 47) = false) :
    Calls Try.prog 4 #[.int .i64 t, .int .i32 c] w fun e w' => e = .returned (.bool true) ∧ w' = w := by
  have hm : mic c = true := by simp [mic, hd, e1, e2, e3]
  have a1 : alw 1 c = false := by simp [alw, hd, hl, hp, hm, e1, e4]
  have a2 : alw 2 c = false := by simp [alw, hd, hl, hp, hm, e1, e4]
  have a3 : alw 3 c = false := by simp [alw, hd, hl, hp, hm, e1, e4]
  have a4 : alw 4 c = true := by simp [alw, hd, hl, hp, hm, e1, e4]
  have a5 : alw 5 c = false := by simp [alw, hd, hl, hp, hm, e1, e4]
  have a6 : alw 6 c = true := by simp [alw, hd, hl, hp, hm, e1, e4]
  have a7 : alw 7 c = true := by simp [alw, hd, hl, hp, hm, e1, e4]
  have a8 : alw 8 c = true := by simp [alw, hd, hl, hp, hm, e1, e4]
  have a9 : alw 9 c = false := by simp [alw, hd, hl, hp, hm, e1, e4]
  go_enter Try.func4, Try.ntmps4
  go_wp2_with (go_at_call 5; refine (allows_any _ _ _).mono ?_; rintro e w' ⟨rfl, rfl⟩)
  all_goals first
    | (go_ret; exact ⟨rfl, rfl⟩)
    | (exfalso; simp_all [alw])

set_option maxHeartbeats 1600000 in
set_option maxRecDepth 100000 in
theorem sister_sl (t c : Int) (w : World) (h0 : 32 ≤ c) (h1 : c ≤ 126) (hd : dig c = false) (hl : ltr c = false) (hp : prn c = true) (e1 : (c == 32) = false) (e2 : (c == 45) = false) (e3 : (c == 42) = false) (e4 : (c == 47) = true) :
    Calls Try.prog 4 #[.int .i64 t, .int .i32 c] w fun e w' => e = .returned (.bool true) ∧ w' = w := by
  have hm : mic c = false := by simp [mic, hd, e1, e2, e3]
  have a1 : alw 1 c = false := by simp [alw, hd, hl, hp, hm, e1, e4]
  have a2 : alw 2 c = false := by simp [alw, hd, hl, hp, hm, e1, e4]
  have a3 : alw 3 c = false := by simp [alw, hd, hl, hp, hm, e1, e4]
  have a4 : alw 4 c = true := by simp [alw, hd, hl, hp, hm, e1, e4]
  have a5 : alw 5 c = false := by simp [alw, hd, hl, hp, hm, e1, e4]
  have a6 : alw 6 c = true := by simp [alw, hd, hl, hp, hm, e1, e4]
  have a7 : alw 7 c = false := by simp [alw, hd, hl, hp, hm, e1, e4]
  have a8 : alw 8 c = true := by simp [alw, hd, hl, hp, hm, e1, e4]
  have a9 : alw 9 c = false := by simp [alw, hd, hl, hp, hm, e1, e4]
  go_enter Try.func4, Try.ntmps4
  go_wp2_with (go_at_call 5; refine (allows_any _ _ _).mono ?_; rintro e w' ⟨rfl, rfl⟩)
  all_goals first
    | (go_ret; exact ⟨rfl, rfl⟩)
    | (exfalso; simp_all [alw])

set_option maxHeartbeats 1600000 in
set_option maxRecDepth 100000 in
theorem sister_ot (t c : Int) (w : World) (h0 : 32 ≤ c) (h1 : c ≤ 126) (hd : dig c = false) (hl : ltr c = false) (hp : prn c = true) (e1 : (c == 32) = false) (e2 : (c == 45) = false) (e3 : (c == 42) = false) (e4 : (c == 47) = false) :
    Calls Try.prog 4 #[.int .i64 t, .int .i32 c] w fun e w' => e = .returned (.bool true) ∧ w' = w := by
  have hm : mic c = false := by simp [mic, hd, e1, e2, e3]
  have a1 : alw 1 c = false := by simp [alw, hd, hl, hp, hm, e1, e4]
  have a2 : alw 2 c = false := by simp [alw, hd, hl, hp, hm, e1, e4]
  have a3 : alw 3 c = false := by simp [alw, hd, hl, hp, hm, e1, e4]
  have a4 : alw 4 c = true := by simp [alw, hd, hl, hp, hm, e1, e4]
  have a5 : alw 5 c = false := by simp [alw, hd, hl, hp, hm, e1, e4]
  have a6 : alw 6 c = true := by simp [alw, hd, hl, hp, hm, e1, e4]
  have a7 : alw 7 c = false := by simp [alw, hd, hl, hp, hm, e1, e4]
  have a8 : alw 8 c = false := by simp [alw, hd, hl, hp, hm, e1, e4]
  have a9 : alw 9 c = false := by simp [alw, hd, hl, hp, hm, e1, e4]
  go_enter Try.func4, Try.ntmps4
  go_wp2_with (go_at_call 5; refine (allows_any _ _ _).mono ?_; rintro e w' ⟨rfl, rfl⟩)
  all_goals first
    | (go_ret; exact ⟨rfl, rfl⟩)
    | (exfalso; simp_all [alw])

theorem sister_walk (t c : Int) (w : World) : Calls Try.prog 4 #[.int .i64 t, .int .i32 c] w fun e w' => e = .returned (.bool true) ∧ w' = w := by
  have hdig : dig c = decide (48 ≤ c ∧ c ≤ 57) := by simp [dig]
  have hltr : ltr c = decide ((65 ≤ c ∧ c ≤ 90) ∨ (97 ≤ c ∧ c ≤ 122)) := by simp [ltr]
  have hprn : prn c = decide (32 ≤ c ∧ c ≤ 126) := by simp [prn]
  by_cases g1 : c < 32
  · exact sister_lo t c w g1 (by rw [hdig]; simp; omega) (by rw [hltr]; simp; omega) (by rw [hprn]; simp; omega) (by simp; omega) (by simp; omega) (by simp; omega) (by simp; omega)
  by_cases g2 : 126 < c
  · exact sister_hi t c w g2 (by rw [hdig]; simp; omega) (by rw [hltr]; simp; omega) (by rw [hprn]; simp; omega) (by simp; omega) (by simp; omega) (by simp; omega) (by simp; omega)
  have h0 : 32 ≤ c := by omega
  have h1 : c ≤ 126 := by omega
  have hp : prn c = true := by rw [hprn]; simp; omega
  by_cases s1 : c = 32
  · exact sister_sp t c w h0 h1 (by rw [hdig]; simp; omega) (by rw [hltr]; simp; omega) hp (by simp; omega) (by simp; omega) (by simp; omega) (by simp; omega)
  by_cases s2 : c = 45
  · exact sister_da t c w h0 h1 (by rw [hdig]; simp; omega) (by rw [hltr]; simp; omega) hp (by simp; omega) (by simp; omega) (by simp; omega) (by simp; omega)
  by_cases s3 : c = 42
  · exact sister_st t c w h0 h1 (by rw [hdig]; simp; omega) (by rw [hltr]; simp; omega) hp (by simp; omega) (by simp; omega) (by simp; omega) (by simp; omega)
  by_cases s4 : c = 47
  · exact sister_sl t c w h0 h1 (by rw [hdig]; simp; omega) (by rw [hltr]; simp; omega) hp (by simp; omega) (by simp; omega) (by simp; omega) (by simp; omega)
  by_cases d1 : 48 ≤ c ∧ c ≤ 57
  · exact sister_dg t c w h0 h1 (by rw [hdig]; simp; omega) (by rw [hltr]; simp; omega) hp (by simp; omega) (by simp; omega) (by simp; omega) (by simp; omega)
  by_cases l1 : (65 ≤ c ∧ c ≤ 90) ∨ (97 ≤ c ∧ c ≤ 122)
  · exact sister_lt t c w h0 h1 (by rw [hdig]; simp; omega) (by rw [hltr]; simp; omega) hp (by simp; omega) (by simp; omega) (by simp; omega) (by simp; omega)
  exact sister_ot t c w h0 h1 (by rw [hdig]; simp; omega) (by rw [hltr]; simp; omega) hp (by simp; omega) (by simp; omega) (by simp; omega) (by simp; omega)

end Go.Proofs.Qxb6628564a
