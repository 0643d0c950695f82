/-
  THE CONTRACT OF zzB1Equal (function 9): it answers whether the two slices hold the same bytes; it only reads.
-/
import Derived.Test.Qxb6628526aRows
import Derived.Test.Qxb6628526aPlain
import Derived.WalkKit
import Derived.ProofKit
import Derived.WalkSpells
import Derived.Deep.QuietTactic
import Derived.BigQuiet
namespace Go.Proofs.Qxb6628526a
open Go.RowKit Go.WideShapes

/-- What is known of a slice of bytes: its elements are zs. -/
def Bts (w : World) (a : Option Addr) (n : Nat) (zs : List Int) : Prop :=
  zs.length = n ∧ (a = none → n = 0) ∧ ∀ x, a = some x → ∀ i, i < n → w.cell? (x.add i) = some (.int .u8 (zs.getD i 0))

/-- Where there is an element the address is plain. -/
theorem Bts.at {w : World} {a : Option Addr} {n : Nat} {zs : List Int} (h : Bts w a n zs) (hn : 0 < n) :
    ∃ b off, a = some ⟨b, off, none⟩ ∧ ∀ i, i < n → w.cell? ⟨b, off + i, none⟩ = some (.int .u8 (zs.getD i 0)) := by
  obtain ⟨h1, h3, h4⟩ := h
  cases a with
  | none => exact absurd (h3 rfl) (by omega)
  | some x =>
    obtain ⟨b, off, spot⟩ := x
    have hc := h4 _ rfl
    have hspot : spot = none := by simpa [Addr.add] using World.cell?_spot (hc 0 hn)
    subst hspot
    exact ⟨b, off, rfl, fun i hi => by rw [← add_plain]; exact hc i hi⟩

/-- It reads so in every later world that keeps the old blocks. -/
theorem Bts.later {w w' : World} {a : Option Addr} {n : Nat} {zs : List Int} (h : Bts w a n zs) (hk : ∀ k, k < w.heap.size → w'.heap[k]? = w.heap[k]?) : Bts w' a n zs :=
  ⟨h.1, h.2.1, fun x hx i hi => by
    have hc := h.2.2 x hx i hi
    rw [← hc]
    exact World.cell?_of_block (hk _ (World.block_lt_of_cell? w _ hc))⟩

theorem take_next {xs ys : List Int} {k : Nat} (hx : k < xs.length) (hy : k < ys.length) (h : xs.take k = ys.take k) (e : xs[k] = ys[k]) : xs.take (k + 1) = ys.take (k + 1) := by
  rw [List.take_succ_eq_append_getElem hx, List.take_succ_eq_append_getElem hy, h]
  rw [e]

set_option maxHeartbeats 400000 in
theorem equal_any (a b : Option Addr) (n m ca cb : Nat) (xs ys : List Int) (w : World) (ha : Bts w a n xs) (hb : Bts w b m ys) (hn : n ≤ maxLen) :
    Calls Try.prog 9 #[.slice a n ca, .slice b m cb] w fun e w' => e = .returned (.bool (decide (xs = ys))) ∧ ∃ q, w' = w.drewN q := by
  unfold maxLen at hn
  by_cases hnm : n = m
  · subst hnm
    by_cases h0 : n = 0
    · subst h0
      have hx : xs = [] := List.eq_nil_of_length_eq_zero ha.1
      have hy : ys = [] := List.eq_nil_of_length_eq_zero hb.1
      subst hx; subst hy
      clear ha hb
      go_enter Try.func9, Try.ntmps9
      go_wp2
      refine wp_loop_rounds 1 ?_
      rw [rounds_succ]
      go_wp2
      go_ret
      exact ⟨rfl, 0, rfl⟩
    · obtain ⟨b1, o1, rfl, hc1⟩ := ha.at (by omega)
      obtain ⟨b2, o2, rfl, hc2⟩ := hb.at (by omega)
      have hlx := ha.1
      have hly := hb.1
      clear ha hb
      go_enter Try.func9, Try.ntmps9
      go_wp2
      go_loopw [5] (fun i wr => ∃ k q : Nat, k ≤ n ∧ i = .int .i64 k ∧ wr = w.drewN q ∧ Hid (xs.take k = ys.take k)) (fun i _ => n - (intOf i).toNat)
      case atStart => exact ⟨0, 0, Nat.zero_le _, rfl, rfl, rfl⟩
      case round =>
        obtain ⟨k, q, hk, rfl, rfl, hid⟩ := hrel
        by_cases hlt : k < n
        · have g1 := hc1 k hlt
          have g2 := hc2 k hlt
          have hlt' : (k : Int) < (n : Int) := by omega
          clear hc1 hc2
          go_wp2
          go_quiet (fail)
          go_wp2
          · go_ret
            have hd : (xs[k] != ys[k]) = true := by assumption
            have hne : xs ≠ ys := by
              intro e
              subst e
              simp at hd
            exact ⟨by simp [hne], q + nq, World.drewN_drewN ..⟩
          · have hd : (xs[k] != ys[k]) = false := by assumption
            go_roundw
            case rel => exact ⟨k + 1, q + nq, by omega, by go_num, rfl, take_next (by omega) (by omega) hid.out (by simpa using hd)⟩
            case measure => simp [intOf]; omega
        · go_wp2
          go_ret
          have e1 : k = n := by omega
          have e2 : xs = ys := by
            have h := hid.out
            rw [e1, List.take_of_length_le (by omega), List.take_of_length_le (by omega)] at h
            exact h
          exact ⟨by simp [e2], q, rfl⟩
  · have hne : xs ≠ ys := by
      intro e
      have h1 := ha.1
      have h2 := hb.1
      rw [e] at h1
      omega
    have hd : decide (xs = ys) = false := decide_eq_false hne
    rw [hd]
    have ht : ((n : Int) == (m : Int)) = false := by simp; omega
    clear ha hb
    go_enter Try.func9, Try.ntmps9
    go_wp2
    go_ret
    exact ⟨rfl, 0, rfl⟩

end Go.Proofs.Qxb6628526a
