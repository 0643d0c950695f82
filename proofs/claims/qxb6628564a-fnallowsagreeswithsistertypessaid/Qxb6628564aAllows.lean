/-
  THE CONTRACT OF (record.FieldType).Allows (5): what it answers, as a plain function of the type's number and the character.
-/
import Derived.Test.Qxb6628564aRows
import Derived.WalkKit
import Derived.WalkSpells
namespace Go.Proofs.Qxb6628564a
open Go.RowKit

def dig (c : Int) : Bool := decide (48 ≤ c) && decide (c ≤ 57)
def ltr (c : Int) : Bool := (decide (65 ≤ c) && decide (c ≤ 90)) || (decide (97 ≤ c) && decide (c ≤ 122))
def prn (c : Int) : Bool := decide (32 ≤ c) && decide (c ≤ 126)
def mic (c : Int) : Bool := dig c || c == 32 || c == 45 || c == 42
/-- What Allows answers. -/
def alw (t c : Int) : Bool :=
  if t = 1 then dig c else if t = 2 then ltr c || c == 32 else if t = 3 then ltr c || dig c || c == 32 else if t = 4 then prn c
  else if t = 5 then dig c || c == 32 else if t = 6 then prn c && !ltr c else if t = 7 then mic c else if t = 8 then mic c || c == 47 else if t = 9 then c == 32 else true

theorem ret_bool {a b : Bool} (h : a = b) : Ending.returned (.bool a) = .returned (.bool b) := by rw [h]

set_option maxHeartbeats 1600000 in
theorem allows_lo (t c : Int) (w : World) (h1 : c ≤ 31) :
    Calls Try.prog 5 #[.int .i64 t, .int .i32 c] w fun e w' => e = .returned (.bool (alw t c)) ∧ w' = w := by
  have hd : dig c = false := by unfold dig; simp; omega
  have hl : ltr c = false := by unfold ltr; simp; omega
  have hp : prn c = false := by unfold prn; simp; omega
  have e1 : (c == 32) = false := by simp; omega
  have e2 : (c == 45) = false := by simp; omega
  have e3 : (c == 42) = false := by simp; omega
  have e4 : (c == 47) = false := by simp; omega
  have hm : mic c = false := by simp [mic, hd, e1, e2, e3]
  go_enter Try.func5, Try.ntmps5
  go_wp2
  all_goals
    go_ret
    refine ⟨ret_bool ?_, rfl⟩
    first
      | (simp_all [alw]; done)
      | (simp_all [alw]; omega)
      | (simp_all [alw]; rw [Bool.eq_iff_iff]; simp; omega)

set_option maxHeartbeats 1600000 in
theorem allows_r1 (t c : Int) (w : World) (h0 : 33 ≤ c) (h1 : c ≤ 41) :
    Calls Try.prog 5 #[.int .i64 t, .int .i32 c] w fun e w' => e = .returned (.bool (alw t c)) ∧ w' = w := by
  have hd : dig c = false := by unfold dig; simp; omega
  have hl : ltr c = false := by unfold ltr; simp; omega
  have hp : prn c = true := by unfold prn; simp; omega
  have e1 : (c == 32) = false := by simp; omega
  have e2 : (c == 45) = false := by simp; omega
  have e3 : (c == 42) = false := by simp; omega
  have e4 : (c == 47) = false := by simp; omega
  have hm : mic c = false := by simp [mic, hd, e1, e2, e3]
  go_enter Try.func5, Try.ntmps5
  go_wp2
  all_goals
    go_ret
    refine ⟨ret_bool ?_, rfl⟩
    first
      | (simp_all [alw]; done)
      | (simp_all [alw]; omega)
      | (simp_all [alw]; rw [Bool.eq_iff_iff]; simp; omega)

set_option maxHeartbeats 1600000 in
theorem allows_r2 (t c : Int) (w : World) (h0 : 43 ≤ c) (h1 : c ≤ 44) :
    Calls Try.prog 5 #[.int .i64 t, .int .i32 c] w fun e w' => e = .returned (.bool (alw t c)) ∧ w' = w := by
  have hd : dig c = false := by unfold dig; simp; omega
  have hl : ltr c = false := by unfold ltr; simp; omega
  have hp : prn c = true := by unfold prn; simp; omega
  have e1 : (c == 32) = false := by simp; omega
  have e2 : (c == 45) = false := by simp; omega
  have e3 : (c == 42) = false := by simp; omega
  have e4 : (c == 47) = false := by simp; omega
  have hm : mic c = false := by simp [mic, hd, e1, e2, e3]
  go_enter Try.func5, Try.ntmps5
  go_wp2
  all_goals
    go_ret
    refine ⟨ret_bool ?_, rfl⟩
    first
      | (simp_all [alw]; done)
      | (simp_all [alw]; omega)
      | (simp_all [alw]; rw [Bool.eq_iff_iff]; simp; omega)

set_option maxHeartbeats 1600000 in
theorem allows_dg (t c : Int) (w : World) (h0 : 48 ≤ c) (h1 : c ≤ 57) :
    Calls Try.prog 5 #[.int .i64 t, .int .i32 c] w fun e w' => e = .returned (.bool (alw t c)) ∧ w' = w := by
  have hd : dig c = true := by unfold dig; simp; omega
  have hl : ltr c = false := by unfold ltr; simp; omega
  have hp : prn c = true := by unfold prn; simp; omega
  have e1 : (c == 32) = false := by simp; omega
  have e2 : (c == 45) = false := by simp; omega
  have e3 : (c == 42) = false := by simp; omega
  have e4 : (c == 47) = false := by simp; omega
  have hm : mic c = true := by simp [mic, hd, e1, e2, e3]
  go_enter Try.func5, Try.ntmps5
  go_wp2
  all_goals
    go_ret
    refine ⟨ret_bool ?_, rfl⟩
    first
      | (simp_all [alw]; done)
      | (simp_all [alw]; omega)
      | (simp_all [alw]; rw [Bool.eq_iff_iff]; simp; omega)

set_option maxHeartbeats 1600000 in
theorem allows_r4 (t c : Int) (w : World) (h0 : 58 ≤ c) (h1 : c ≤ 64) :
    Calls Try.prog 5 #[.int .i64 t, .int .i32 c] w fun e w' => e = .returned (.bool (alw t c)) ∧ w' = w := by
  have hd : dig c = false := by unfold dig; simp; omega
  have hl : ltr c = false := by unfold ltr; simp; omega
  have hp : prn c = true := by unfold prn; simp; omega
  have e1 : (c == 32) = false := by simp; omega
  have e2 : (c == 45) = false := by simp; omega
  have e3 : (c == 42) = false := by simp; omega
  have e4 : (c == 47) = false := by simp; omega
  have hm : mic c = false := by simp [mic, hd, e1, e2, e3]
  go_enter Try.func5, Try.ntmps5
  go_wp2
  all_goals
    go_ret
    refine ⟨ret_bool ?_, rfl⟩
    first
      | (simp_all [alw]; done)
      | (simp_all [alw]; omega)
      | (simp_all [alw]; rw [Bool.eq_iff_iff]; simp; omega)

set_option maxHeartbeats 1600000 in
theorem allows_up (t c : Int) (w : World) (h0 : 65 ≤ c) (h1 : c ≤ 90) :
    Calls Try.prog 5 #[.int .i64 t, .int .i32 c] w fun e w' => e = .returned (.bool (alw t c)) ∧ w' = w := by
  have hd : dig c = false := by unfold dig; simp; omega
  have hl : ltr c = true := by unfold ltr; simp; omega
  have hp : prn c = true := by unfold prn; simp; omega
  have e1 : (c == 32) = false := by simp; omega
  have e2 : (c == 45) = false := by simp; omega
  have e3 : (c == 42) = false := by simp; omega
  have e4 : (c == 47) = false := by simp; omega
  have hm : mic c = false := by simp [mic, hd, e1, e2, e3]
  go_enter Try.func5, Try.ntmps5
  go_wp2
  all_goals
    go_ret
    refine ⟨ret_bool ?_, rfl⟩
    first
      | (simp_all [alw]; done)
      | (simp_all [alw]; omega)
      | (simp_all [alw]; rw [Bool.eq_iff_iff]; simp; omega)

set_option maxHeartbeats 1600000 in
theorem allows_r5 (t c : Int) (w : World) (h0 : 91 ≤ c) (h1 : c ≤ 96) :
    Calls Try.prog 5 #[.int .i64 t, .int .i32 c] w fun e w' => e = .returned (.bool (alw t c)) ∧ w' = w := by
  have hd : dig c = false := by unfold dig; simp; omega
  have hl : ltr c = false := by unfold ltr; simp; omega
  have hp : prn c = true := by unfold prn; simp; omega
  have e1 : (c == 32) = false := by simp; omega
  have e2 : (c == 45) = false := by simp; omega
  have e3 : (c == 42) = false := by simp; omega
  have e4 : (c == 47) = false := by simp; omega
  have hm : mic c = false := by simp [mic, hd, e1, e2, e3]
  go_enter Try.func5, Try.ntmps5
  go_wp2
  all_goals
    go_ret
    refine ⟨ret_bool ?_, rfl⟩
    first
      | (simp_all [alw]; done)
      | (simp_all [alw]; omega)
      | (simp_all [alw]; rw [Bool.eq_iff_iff]; simp; omega)

set_option maxHeartbeats 1600000 in
theorem allows_lw (t c : Int) (w : World) (h0 : 97 ≤ c) (h1 : c ≤ 122) :
    Calls Try.prog 5 #[.int .i64 t, .int .i32 c] w fun e w' => e = .returned (.bool (alw t c)) ∧ w' = w := by
  have hd : dig c = false := by unfold dig; simp; omega
  have hl : ltr c = true := by unfold ltr; simp; omega
  have hp : prn c = true := by unfold prn; simp; omega
  have e1 : (c == 32) = false := by simp; omega
  have e2 : (c == 45) = false := by simp; omega
  have e3 : (c == 42) = false := by simp; omega
  have e4 : (c == 47) = false := by simp; omega
  have hm : mic c = false := by simp [mic, hd, e1, e2, e3]
  go_enter Try.func5, Try.ntmps5
  go_wp2
  all_goals
    go_ret
    refine ⟨ret_bool ?_, rfl⟩
    first
      | (simp_all [alw]; done)
      | (simp_all [alw]; omega)
      | (simp_all [alw]; rw [Bool.eq_iff_iff]; simp; omega)

set_option maxHeartbeats 1600000 in
theorem allows_r6 (t c : Int) (w : World) (h0 : 123 ≤ c) (h1 : c ≤ 126) :
    Calls Try.prog 5 #[.int .i64 t, .int .i32 c] w fun e w' => e = .returned (.bool (alw t c)) ∧ w' = w := by
  have hd : dig c = false := by unfold dig; simp; omega
  have hl : ltr c = false := by unfold ltr; simp; omega
  have hp : prn c = true := by unfold prn; simp; omega
  have e1 : (c == 32) = false := by simp; omega
  have e2 : (c == 45) = false := by simp; omega
  have e3 : (c == 42) = false := by simp; omega
  have e4 : (c == 47) = false := by simp; omega
  have hm : mic c = false := by simp [mic, hd, e1, e2, e3]
  go_enter Try.func5, Try.ntmps5
  go_wp2
  all_goals
    go_ret
    refine ⟨ret_bool ?_, rfl⟩
    first
      | (simp_all [alw]; done)
      | (simp_all [alw]; omega)
      | (simp_all [alw]; rw [Bool.eq_iff_iff]; simp; omega)

set_option maxHeartbeats 1600000 in
theorem allows_hi (t c : Int) (w : World) (h0 : 127 ≤ c) :
    Calls Try.prog 5 #[.int .i64 t, .int .i32 c] w fun e w' => e = .returned (.bool (alw t c)) ∧ w' = w := by
  have hd : dig c = false := by unfold dig; simp; omega
  have hl : ltr c = false := by unfold ltr; simp; omega
  have hp : prn c = false := by unfold prn; simp; omega
  have e1 : (c == 32) = false := by simp; omega
  have e2 : (c == 45) = false := by simp; omega
  have e3 : (c == 42) = false := by simp; omega
  have e4 : (c == 47) = false := by simp; omega
  have hm : mic c = false := by simp [mic, hd, e1, e2, e3]
  go_enter Try.func5, Try.ntmps5
  go_wp2
  all_goals
    go_ret
    refine ⟨ret_bool ?_, rfl⟩
    first
      | (simp_all [alw]; done)
      | (simp_all [alw]; omega)
      | (simp_all [alw]; rw [Bool.eq_iff_iff]; simp; omega)

set_option maxHeartbeats 1600000 in
theorem allows_c32 (t : Int) (w : World) :
    Calls Try.prog 5 #[.int .i64 t, .int .i32 32] w fun e w' => e = .returned (.bool (alw t 32)) ∧ w' = w := by
  go_enter Try.func5, Try.ntmps5
  go_wp2
  all_goals
    go_ret
    refine ⟨ret_bool ?_, rfl⟩
    simp_all [alw, dig, ltr, prn, mic]

set_option maxHeartbeats 1600000 in
theorem allows_c42 (t : Int) (w : World) :
    Calls Try.prog 5 #[.int .i64 t, .int .i32 42] w fun e w' => e = .returned (.bool (alw t 42)) ∧ w' = w := by
  go_enter Try.func5, Try.ntmps5
  go_wp2
  all_goals
    go_ret
    refine ⟨ret_bool ?_, rfl⟩
    simp_all [alw, dig, ltr, prn, mic]

set_option maxHeartbeats 1600000 in
theorem allows_c45 (t : Int) (w : World) :
    Calls Try.prog 5 #[.int .i64 t, .int .i32 45] w fun e w' => e = .returned (.bool (alw t 45)) ∧ w' = w := by
  go_enter Try.func5, Try.ntmps5
  go_wp2
  all_goals
    go_ret
    refine ⟨ret_bool ?_, rfl⟩
    simp_all [alw, dig, ltr, prn, mic]

set_option maxHeartbeats 1600000 in
theorem allows_c46 (t : Int) (w : World) :
    Calls Try.prog 5 #[.int .i64 t, .int .i32 46] w fun e w' => e = .returned (.bool (alw t 46)) ∧ w' = w := by
  go_enter Try.func5, Try.ntmps5
  go_wp2
  all_goals
    go_ret
    refine ⟨ret_bool ?_, rfl⟩
    simp_all [alw, dig, ltr, prn, mic]

set_option maxHeartbeats 1600000 in
theorem allows_c47 (t : Int) (w : World) :
    Calls Try.prog 5 #[.int .i64 t, .int .i32 47] w fun e w' => e = .returned (.bool (alw t 47)) ∧ w' = w := by
  go_enter Try.func5, Try.ntmps5
  go_wp2
  all_goals
    go_ret
    refine ⟨ret_bool ?_, rfl⟩
    simp_all [alw, dig, ltr, prn, mic]

/-- Allows answers 'alw t c'; it only computes. -/
theorem allows_any (t c : Int) (w : World) :
    Calls Try.prog 5 #[.int .i64 t, .int .i32 c] w fun e w' => e = .returned (.bool (alw t c)) ∧ w' = w := by
  by_cases g1 : c ≤ 31
  · exact allows_lo t c w g1
  by_cases g2 : 127 ≤ c
  · exact allows_hi t c w g2
  by_cases s1 : c = 32
  · subst s1; exact allows_c32 t w
  by_cases s2 : c = 42
  · subst s2; exact allows_c42 t w
  by_cases s3 : c = 45
  · subst s3; exact allows_c45 t w
  by_cases s4 : c = 46
  · subst s4; exact allows_c46 t w
  by_cases s5 : c = 47
  · subst s5; exact allows_c47 t w
  by_cases i1 : c ≤ 41
  · exact allows_r1 t c w (by omega) i1
  by_cases i2 : c ≤ 44
  · exact allows_r2 t c w (by omega) i2
  by_cases i3 : c ≤ 57
  · exact allows_dg t c w (by omega) i3
  by_cases i4 : c ≤ 64
  · exact allows_r4 t c w (by omega) i4
  by_cases i5 : c ≤ 90
  · exact allows_up t c w (by omega) i5
  by_cases i6 : c ≤ 96
  · exact allows_r5 t c w (by omega) i6
  by_cases i7 : c ≤ 122
  · exact allows_lw t c w (by omega) i7
  exact allows_r6 t c w (by omega) (by omega)

end Go.Proofs.Qxb6628564a
