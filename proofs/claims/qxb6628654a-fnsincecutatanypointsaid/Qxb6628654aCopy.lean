/-
  THE CONTRACT OF zzSinceCopy (6): a new row with the same bytes.
-/
import Derived.Test.Qxb6628654aRows
import Derived.WalkKit
import Derived.WalkSpells
import Derived.ProofKit
import Derived.Deep.OwnRows
import Derived.Deep.QuietTactic
import Derived.BigQuiet
namespace Go.Proofs.Qxb6628654a
open Go.RowKit Go.WideShapes

theorem Try.info5 : (Try.prog.info? 5).map (fun i => (i.zero, i.size, i.bytes)) = some (some (.int .u8 0), 1, 1) := by kernel_rfl

/-- What is known of a slice of bytes: its elements are zs. -/
def Bts (w : World) (a : Option Addr) (n : Nat) (zs : List Int) : Prop :=
  zs.length = n ∧ (a = none → n = 0) ∧ ∀ x, a = some x → ∀ i, i < n → w.cell? (x.add i) = some (.int .u8 (zs.getD i 0))

/-- Where there is an element the address is plain. -/
theorem Bts.at {w : World} {a : Option Addr} {n : Nat} {zs : List Int} (h : Bts w a n zs) (hn : 0 < n) :
    ∃ b off, a = some ⟨b, off, none⟩ ∧ ∀ i, i < n → w.cell? ⟨b, off + i, none⟩ = some (.int .u8 (zs.getD i 0)) := by
  obtain ⟨h1, h3, h4⟩ := h
  cases a with
  | none => exact absurd (h3 rfl) (by omega)
  | some x =>
    obtain ⟨b, off, spot⟩ := x
    have hc := h4 _ rfl
    have hspot : spot = none := by simpa [Addr.add] using World.cell?_spot (hc 0 hn)
    subst hspot
    exact ⟨b, off, rfl, fun i hi => by rw [← add_plain]; exact hc i hi⟩

/-- It reads so in every later world that keeps the old blocks. -/
theorem Bts.later {w w' : World} {a : Option Addr} {n : Nat} {zs : List Int} (h : Bts w a n zs) (hk : ∀ k, k < w.heap.size → w'.heap[k]? = w.heap[k]?) : Bts w' a n zs :=
  ⟨h.1, h.2.1, fun x hx i hi => by
    have hc := h.2.2 x hx i hi
    rw [← hc]
    exact World.cell?_of_block (hk _ (World.block_lt_of_cell? w _ hc))⟩

/-- The row when k bytes are through (a name that the walk does not open). -/
def cpy (zs : List Int) (k j : Nat) : Value := if j < k then .int .u8 (zs.getD j 0) else .int .u8 0
theorem cpy_next (zs : List Int) (k j : Nat) : (if j = k then .int .u8 (zs.getD k 0) else cpy zs k j) = cpy zs (k + 1) j := by
  unfold cpy
  by_cases h : j = k
  · subst h; simp
  · rw [if_neg h]
    by_cases h2 : j < k
    · rw [if_pos h2, if_pos (by omega)]
    · rw [if_neg h2, if_neg (by omega)]

set_option maxHeartbeats 400000 in
theorem copy_any (a : Option Addr) (n ca : Nat) (zs : List Int) (w : World) (h : Bts w a n zs) (hn : n ≤ 1048576) :
    Calls Try.prog 6 #[.slice a n ca] w fun e w' => e = .returned (.slice (some ⟨w.heap.size, 0, none⟩) n n) ∧ w'.rowIs w.heap.size 5 n (fun i => .int .u8 (zs.getD i 0)) ∧ Below w.heap.size w w' ∧ w'.heap.size = w.heap.size + 1 := by
  have hmk := fun w => run_make_row' (P := Try.prog) 22 5 (.int .u8 0) 1 Try.underlying22 Try.info5 rfl .i64 .i64 n (by omega) (by omega) w
  have hmade := World.rowIs_made w (.int .u8 0) n 5
  go_enter Try.func6, Try.ntmps6
  go_wp2_with fail
  go_loopw [4] (fun i wr => ∃ k : Nat, k ≤ n ∧ i = .int .i64 k ∧ wr.rowIs w.heap.size 5 n (cpy zs k) ∧ Below w.heap.size w wr ∧ wr.heap.size = w.heap.size + 1) (fun i _ => n - (intOf i).toNat)
  case atStart => exact ⟨0, Nat.zero_le _, rfl, hmade.congr (fun i _ => by simp [cpy]), (Below.refl _ _).alloc (Nat.le_refl _) _, by simp⟩
  case round =>
    obtain ⟨k, hk, rfl, hrow, hbel, hsz⟩ := hrel
    clear hmade hmk
    have HS : Hid (wr.heap.size = w.heap.size + 1) := hsz
    clear hsz
    by_cases hlt : k < n
    · obtain ⟨b, off, hx, hc⟩ := h.at (by omega)
      subst hx
      have g1 : wr.cell? ⟨b, off + k, none⟩ = some (.int .u8 (zs.getD k 0)) := (hbel.cell (World.block_lt_of_cell? w _ (hc k hlt))).trans (hc k hlt)
      have g2 := hrow.cell hlt
      have g3 := hrow.frozen k
      obtain ⟨old, g2'⟩ : ∃ v, wr.cell? ⟨w.heap.size, k, none⟩ = some v := ⟨_, g2⟩
      have HR : Hid (wr.rowIs w.heap.size 5 n (cpy zs k)) := hrow
      have hlt' : (k : Int) < (n : Int) := by omega
      clear hrow g2 hc h
      go_wp2
      go_roundw
      case rel => exact ⟨k + 1, by omega, by go_num, (HR.out.set k _).congr (fun j _ => by rw [← cpy_next zs k j, List.getD_eq_getElem?_getD]), hbel.setCell (Nat.le_refl _) _, by rw [← HS.out]; simp [World.setCell]⟩
      case measure => simp [intOf]; omega
    · obtain rfl : k = n := by omega
      go_wp2
      go_ret
      exact ⟨rfl, hrow.congr (fun i hi => by simp [cpy, hi]), hbel, HS.out⟩

end Go.Proofs.Qxb6628654a
