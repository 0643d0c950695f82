/-
  CONTRACTS OF ZZnewDecoder (7), (*Decoder).Since (8), the two zzBytes (5, 9), zzSinceEqual (10).
-/
import Derived.Test.Qxb6628654aCopy
namespace Go.Proofs.Qxb6628654a
open Go.RowKit Go.WideShapes

def AnyBool (e : Ending) : Prop := ∃ r : Bool, e = .returned (.bool r)
theorem anyBool (r : Bool) : AnyBool (.returned (.bool r)) := ⟨r, rfl⟩

theorem zzBytes5_any (a : Option Addr) (n c : Nat) (x y : Int) (w : World) : Calls Try.prog 5 #[.slice a n c, .int .i64 x, .int .i64 y] w fun e w' => AnyBool e ∧ w' = w := by
  go_enter Try.func5, Try.ntmps5
  go_wp2
  all_goals
    go_ret
    exact ⟨anyBool _, rfl⟩
theorem zzBytes9_any (a : Option Addr) (n c : Nat) (x y z : Int) (w : World) : Calls Try.prog 9 #[.slice a n c, .int .i64 x, .int .i64 y, .int .i64 z] w fun e w' => AnyBool e ∧ w' = w := by
  go_enter Try.func9, Try.ntmps9
  go_wp2
  all_goals
    go_ret
    exact ⟨anyBool _, rfl⟩

/-- ZZnewDecoder: a new struct. -/
theorem decoder_any (g n m : Nat) (p : Int) (w : World) : Calls Try.prog 7 #[.slice (some ⟨g, 0, none⟩) n m, .int .i64 p] w fun e w' => e = .returned (.pointer (some ⟨w.heap.size, 0, none⟩)) ∧ Below w.heap.size w w' ∧ w'.heap.size = w.heap.size + 1 ∧
    w'.cell? ⟨w.heap.size, 0, none⟩ = some (.slice (some ⟨g, 0, none⟩) n m) ∧ w'.cell? ⟨w.heap.size, 1, none⟩ = some (.int .i64 p) := by
  go_enter Try.func7, Try.ntmps7
  go_wp2
  go_ret
  exact ⟨rfl, (Below.refl _ _).alloc (Nat.le_refl _) _, by simp, by simp, by simp⟩

theorem ret_slice {A : Option Addr} {l l' c c' : Nat} (h : l = l') (h2 : c = c') : Ending.returned (.slice A l c) = .returned (.slice A l' c') := by rw [h, h2]

/-- What Since answers: the window from k on, k the least place at or after off at which pos is reached or a byte above the space stands. -/
def SinceOk (g n pos off : Nat) (zs : List Int) (w : World) (e : Ending) (w' : World) : Prop :=
  ∃ k A, off ≤ k ∧ k ≤ pos ∧ (∀ j, off ≤ j → j < k → zs.getD j 0 ≤ 32) ∧ (k < pos → 32 < zs.getD k 0) ∧ (k < n → A = some ⟨g, k, none⟩) ∧ e = .returned (.slice A (pos - k) (n - k)) ∧ ∃ q, w' = w.drewN q

set_option maxHeartbeats 400000 in
theorem since_any (db g n pos off : Nat) (zs : List Int) (w : World) (c0 : w.cell? ⟨db, 0, none⟩ = some (.slice (some ⟨g, 0, none⟩) n n)) (c1 : w.cell? ⟨db, 1, none⟩ = some (.int .i64 pos)) (hrow : ∀ i, i < n → w.cell? ⟨g, i, none⟩ = some (.int .u8 (zs.getD i 0)))
    (hn : n ≤ 1048576) (hpos : pos ≤ n) (hoff : off ≤ pos) :
    Calls Try.prog 8 #[.pointer (some ⟨db, 0, none⟩), .int .i64 off] w fun e w' => SinceOk g n pos off zs w e w' := by
  have HR : Hid (∀ i, i < n → w.cell? ⟨g, i, none⟩ = some (.int .u8 (zs.getD i 0))) := hrow
  clear hrow
  go_enter Try.func8, Try.ntmps8
  go_wp2_with fail
  go_loop [1] (fun o => ∃ k : Nat, off ≤ k ∧ k ≤ pos ∧ o = .int .i64 k ∧ Hid (∀ j, off ≤ j → j < k → zs.getD j 0 ≤ 32)) (fun o => pos - (intOf o).toNat)
  case atStart => exact ⟨off, Nat.le_refl _, hoff, rfl, fun j h1 h2 => by omega⟩
  case round =>
    obtain ⟨k, hk0, hk, rfl, hid⟩ := hrel
    by_cases hlt : k < pos
    · have hc := HR.out k (by omega)
      obtain ⟨z, hz⟩ : ∃ z, z = zs.getD k 0 := ⟨_, rfl⟩
      rw [← hz] at hc
      have HZ : Hid (z = zs.getD k 0) := hz
      clear hz
      have hlt' : (k : Int) < (pos : Int) := by omega
      have hlt'' : (k : Int) < (n : Int) := by omega
      by_cases hz32 : z ≤ 32
      · go_wp2
        go_round
        case rel =>
          refine ⟨k + 1, by omega, by omega, by go_num, fun j h1 h2 => ?_⟩
          by_cases hjk : j = k
          · rw [hjk, ← HZ.out]; exact hz32
          · exact hid.out j h1 (by omega)
        case measure => simp [intOf]; omega
      · go_wp2
        go_quiet (fail)
        go_wp2
        go_ret
        exact ⟨k, _, hk0, hk, hid.out, fun _ => by rw [← HZ.out]; omega, fun _ => rfl, rfl, _, rfl⟩
    · obtain rfl : k = pos := by omega
      go_wp2
      go_quiet (fail)
      go_wp2
      all_goals
        go_ret
        refine ⟨k, _, hk0, hk, hid.out, fun h => by omega, ?_, ret_slice (by omega) (by omega), _, rfl⟩
        first
        | (intro h; omega)
        | (intro h; rfl)

end Go.Proofs.Qxb6628654a
