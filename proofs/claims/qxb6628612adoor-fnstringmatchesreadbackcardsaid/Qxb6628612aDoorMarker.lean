/-
  markerB1 (11) AND zzBytes_FnStringInjective (10); what a value's printout is good for, in one lemma ('shown').
-/
import Derived.Test.Qxb6628612aDoorMake
import Derived.Lib.Strings
namespace Go.Proofs.Qxb6628612aDoor
open Go.RowKit Plain

def AnyBool (e : Ending) : Prop := ∃ r : Bool, e = .returned (.bool r)
theorem anyBool (r : Bool) : AnyBool (.returned (.bool r)) := ⟨r, rfl⟩

theorem zzBytes10_any (k1 n1 k2 n2 : Int) (s1 s2 : ByteArray) (w : World) :
    Calls Tryd.prog 10 #[.int .u8 k1, .int .i64 n1, .string s1, .int .u8 k2, .int .i64 n2, .string s2] w fun e w' => AnyBool e ∧ w' = w := by
  go_enter Tryd.func10, Tryd.ntmps10
  go_wp2
  all_goals
    go_ret
    exact ⟨anyBool _, rfl⟩

theorem marker_0 (w : World) : Calls Tryd.prog 11 #[.string ⟨#[78, 85, 76, 76]⟩] w fun e w' => e = .returned (.int .u8 0) ∧ w' = w := by
  go_enter Tryd.func11, Tryd.ntmps11
  go_wp2
  go_ret
  exact ⟨rfl, rfl⟩

theorem marker_2 (t : ByteArray) (w : World) (h0 : 0 < t.size) (hN : (t.toList == [78, 85, 76, 76]) = false) (h1 : ((t[0].toNat : Int) == 39) = true) : Calls Tryd.prog 11 #[.string t] w fun e w' => e = .returned (.int .u8 2) ∧ w' = w := by
  have hz : ((t.size : Int) == 0) = false := beq_eq_false_iff_ne.2 (by omega)
  go_enter Tryd.func11, Tryd.ntmps11
  go_wp2
  go_ret
  exact ⟨rfl, rfl⟩

theorem marker_1m (t : ByteArray) (w : World) (h0 : 0 < t.size) (hN : (t.toList == [78, 85, 76, 76]) = false) (h1 : ((t[0].toNat : Int) == 39) = false) (h2 : ((t[0].toNat : Int) == 45) = true) : Calls Tryd.prog 11 #[.string t] w fun e w' => e = .returned (.int .u8 1) ∧ w' = w := by
  have hz : ((t.size : Int) == 0) = false := beq_eq_false_iff_ne.2 (by omega)
  go_enter Tryd.func11, Tryd.ntmps11
  go_wp2
  go_ret
  exact ⟨rfl, rfl⟩

theorem marker_1d (t : ByteArray) (w : World) (h0 : 0 < t.size) (hN : (t.toList == [78, 85, 76, 76]) = false) (h1 : ((t[0].toNat : Int) == 39) = false) (h2 : ((t[0].toNat : Int) == 45) = false) (h3 : 48 ≤ (t[0].toNat : Int)) (h4 : (t[0].toNat : Int) ≤ 57) :
    Calls Tryd.prog 11 #[.string t] w fun e w' => e = .returned (.int .u8 1) ∧ w' = w := by
  have hz : ((t.size : Int) == 0) = false := beq_eq_false_iff_ne.2 (by omega)
  go_enter Tryd.func11, Tryd.ntmps11
  go_wp2
  go_ret
  exact ⟨rfl, rfl⟩

/-- The printout of a value, as a plain function. -/
def vstr (k n : Int) (l : List UInt8) : List UInt8 := if k = 0 then [78, 85, 76, 76] else if k = 1 then Lib.itoa n else qlit l

/-- All that the laws ask of mkValueB1(k, n, s).String(). -/
def Shown (k n : Int) (s : ByteArray) : Prop :=
  ∃ (V : Value) (T : ByteArray), (∀ w, Calls Tryd.prog 6 #[.int .u8 k, .int .i64 n, .string s] w fun e w' => e = .returned V ∧ Below w.heap.size w w') ∧
    (∀ w, Lib.TabIs Tryd.prog w tabName .u64 Lib.pow10Tab → Calls Tryd.prog 7 #[V] w fun e w' => e = .returned (.string T) ∧ Below w.heap.size w w') ∧
    T = ⟨(vstr k n s.data.toList).toArray⟩ ∧ ∀ w, Calls Tryd.prog 11 #[.string T] w fun e w' => e = .returned (.int .u8 k) ∧ w' = w

theorem list_of (l : List UInt8) : (⟨l.toArray⟩ : ByteArray).toList = l := by rw [Lib.toList_data]

theorem shown_0 (n : Int) (s : ByteArray) : Shown 0 n s :=
  ⟨_, ⟨#[78, 85, 76, 76]⟩, fun w => mk_0 n s w, fun w _ => string_null 0 ⟨#[]⟩ w, rfl, fun w => marker_0 w⟩

theorem shown_2 (n : Int) (s : ByteArray) (hs : s.size ≤ 1048576) : Shown 2 n s := by
  refine ⟨_, ⟨(qlit s.data.toList).toArray⟩, fun w => mk_2 n s w, fun w _ => string_text 0 s w hs, rfl, fun w => marker_2 _ w ?_ ?_ ?_⟩
  · show 0 < (qlit s.data.toList).length
    simp [qlit]
  · rw [list_of]
    simp [qlit]
  · rfl

theorem shown_1 (n : Int) (s : ByteArray) (h0 : -9223372036854775808 ≤ n) (h1 : n ≤ 9223372036854775807) : Shown 1 n s := by
  refine ⟨_, ⟨(Lib.itoa n).toArray⟩, fun w => mk_1 n s w, fun w ht => string_int n ⟨#[]⟩ w h0 h1 ht, rfl, fun w => ?_⟩
  obtain ⟨c, l, e, hc⟩ := itoa_head n
  have hN : ((⟨(c :: l).toArray⟩ : ByteArray).toList == [78, 85, 76, 76]) = false := by
    rw [list_of]
    rcases hc with ⟨rfl, _⟩ | ⟨ha, hb, _⟩
    · simp
    · have : c ≠ 78 := by intro h; subst h; have : (78 : UInt8).toNat = 78 := rfl; omega
      simp [this]
  rw [e]
  rcases hc with ⟨rfl, _⟩ | ⟨ha, hb, _⟩
  · exact marker_1m _ w (by show 0 < (45 :: l).length; simp) hN rfl rfl
  · have hh : (⟨(c :: l).toArray⟩ : ByteArray)[0]'(by show 0 < (c :: l).length; simp) = c := rfl
    exact marker_1d _ w (by show 0 < (c :: l).length; simp) hN (by rw [hh]; simp; omega) (by rw [hh]; simp; omega) (by rw [hh]; omega) (by rw [hh]; omega)

/-- Whichever of the three kinds. -/
theorem shown (k n : Int) (s : ByteArray) (hk0 : 0 ≤ k) (hk : k ≤ 2) (h0 : -9223372036854775808 ≤ n) (h1 : n ≤ 9223372036854775807) (hs : s.size ≤ 1048576) : Shown k n s := by
  by_cases e0 : k = 0
  · subst e0; exact shown_0 n s
  by_cases e1 : k = 1
  · subst e1; exact shown_1 n s h0 h1
  obtain rfl : k = 2 := by omega
  exact shown_2 n s hs

end Go.Proofs.Qxb6628612aDoor
