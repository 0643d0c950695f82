/-
  THE CONTRACT OF lockstate.JoinEntry (6).
-/
import Derived.Test.Qxb6628526aVarint
import Derived.Test.Qxb6628526aSize
namespace Go.Proofs.Qxb6628526a
open Go.RowKit Go.WideShapes Plain

/-- What is known of a slice of slices of bytes: its elements hold the commands cs. -/
def Rws (w : World) (a : Option Addr) (n : Nat) (cs : List (List Int)) : Prop :=
  cs.length = n ∧ (a = none → n = 0) ∧ ∀ x, a = some x → ∀ r, r < n → ∃ (A : Option Addr) (L C : Nat), w.cell? (x.add r) = some (.slice A L C) ∧ (A = none → C = 0) ∧ Bts w A L (cs.getD r [])

theorem Rws.at {w : World} {a : Option Addr} {n : Nat} {cs : List (List Int)} (h : Rws w a n cs) (hn : 0 < n) :
    ∃ b off, a = some ⟨b, off, none⟩ ∧ ∀ r, r < n → ∃ (A : Option Addr) (L C : Nat), w.cell? ⟨b, off + r, none⟩ = some (.slice A L C) ∧ (A = none → C = 0) ∧ Bts w A L (cs.getD r []) := by
  obtain ⟨h1, h3, h4⟩ := h
  cases a with
  | none => exact absurd (h3 rfl) (by omega)
  | some x =>
    obtain ⟨b, off, spot⟩ := x
    have hc := h4 _ rfl
    obtain ⟨A0, L0, C0, hc0, _⟩ := hc 0 hn
    have hspot : spot = none := by simpa [Addr.add] using World.cell?_spot hc0
    subst hspot
    exact ⟨b, off, rfl, fun i hi => by rw [← add_plain]; exact hc i hi⟩

theorem Rws.later {w w' : World} {a : Option Addr} {n : Nat} {cs : List (List Int)} (h : Rws w a n cs) (hk : ∀ k, k < w.heap.size → w'.heap[k]? = w.heap[k]?) : Rws w' a n cs :=
  ⟨h.1, h.2.1, fun x hx r hr => by
    obtain ⟨A, L, C, hc, h1, h2⟩ := h.2.2 x hx r hr
    refine ⟨A, L, C, ?_, h1, h2.later hk⟩
    rw [← hc]
    exact World.cell?_of_block (hk _ (World.block_lt_of_cell? w _ hc))⟩

theorem getD_mem {cs : List (List Int)} {k : Nat} (h : k < cs.length) : cs.getD k [] ∈ cs := by
  simp only [List.getD_eq_getElem?_getD, List.getElem?_eq_getElem h, Option.getD_some]
  exact List.getElem_mem h

set_option maxHeartbeats 400000 in
theorem join_any (a : Option Addr) (n c : Nat) (cs : List (List Int)) (w : World) (h : Rws w a n cs) (hn : n ≤ 1048576) (hc : ∀ c ∈ cs, c.length ≤ 1048576) :
    Calls Try.prog 6 #[.slice a n c] w fun e w' => ∃ v', e = .returned v' ∧ Own w' w.heap.size v' (je cs) ∧ Below w.heap.size w w' := by
  have hcs := h.1
  have hcs1 : Hid (cs.length = n) := hcs
  clear hcs
  go_enter Try.func6, Try.ntmps6
  go_wp2_with fail
  go_loop [3, 11] (fun s i => ∃ (k : Nat) (r : Int), k ≤ n ∧ i = .int .i64 k ∧ s = .int .i64 r ∧ 0 ≤ r ∧ r ≤ 1 + k * 68157440) (fun _ i => n - (intOf i).toNat)
  case atStart => exact ⟨0, 1, Nat.zero_le _, rfl, rfl, by omega, by omega⟩
  case round =>
    obtain ⟨k, r, hk, rfl, rfl, hr0, hr1⟩ := hrel
    by_cases hlt : k < n
    · obtain ⟨b, off, ha, hrow⟩ := h.at (by omega)
      subst ha
      obtain ⟨A, L, C, hcell, hA, hB⟩ := hrow k hlt
      have hL : L ≤ 1048576 := by
        rw [← hB.1]
        exact hc _ (getD_mem (by rw [hcs1.out]; exact hlt))
      clear hrow h hB hc
      go_wp2_with (go_at_call 11; refine (sizeBytes_any _ _ hL).mono ?_; rintro e w' ⟨⟨q, rfl, hq0, hq1⟩, rfl⟩)
      go_round
      case rel => exact ⟨k + 1, r + q, by omega, by go_num, rfl, by omega, by omega⟩
      case measure => simp [intOf]; omega
    · have hkn : k = n := by omega
      subst hkn
      go_wp2_with (first
        | (at_make; refine wpList_make_bytes _ rfl _ _ rfl w.heap.size _ _ _ rfl rfl hr0 (by omega) (Nat.le_refl _) ?_))
      intro v0 w0 ho0 hb0
      have hs0 := hb0.size
      go_wp2_with (at_builtin; refine wpList_append_bytes _ rfl (.tmp 23) (.tmp 24) rfl w.heap.size _ _ rfl (ho0.alloc _) _ _ _ [1] rfl (bts_new _ _ _ _ rfl rfl) (fun h => by cases h) (by simp) (by simp; omega) ?_)
      intro v1 w1 ho1 hb1
      have hb2 : Below w.heap.size w w1 := (hb0.alloc hs0 _).trans hb1
      clear hb1 hb0 ho0
      go_wp2_with fail
      go_loopw [6, 28] (fun v i wr => ∃ j : Nat, j ≤ k ∧ i = .int .i64 j ∧ Own wr w.heap.size v (je (cs.take j)) ∧ Below w.heap.size w wr) (fun _ i _ => k - (intOf i).toNat)
      case atStart => exact ⟨0, Nat.zero_le _, rfl, ho1, hb2⟩
      case round =>
        obtain ⟨j, hj, rfl, hown, hbel⟩ := hrel
        have hsz := hbel.size
        by_cases hlt : j < k
        · obtain ⟨b, off, ha, hrow⟩ := h.at (by omega)
          subst ha
          obtain ⟨A, L, C, hcell0, hA, hB⟩ := hrow j hlt
          have hcell : wr.cell? ⟨b, off + j, none⟩ = some (.slice A L C) := (hbel.cell (World.block_lt_of_cell? w _ hcell0)).trans hcell0
          have hj2 : j < cs.length := by rw [hcs1.out]; exact hlt
          have hL : L ≤ 1048576 := by
            rw [← hB.1]
            exact hc _ (getD_mem hj2)
          have hz : (je (cs.take j)).length ≤ 17592186044416 := by
            have h1 := je_len (cs.take j) (fun c hh => hc c (List.mem_of_mem_take hh))
            have h2 : (cs.take j).length ≤ j := List.length_take_le _ _
            omega
          have hsrc : Hid (∀ w', Below w.heap.size wr w' → Bts w' A L (cs.getD j [])) := fun w' hw' => hB.later (fun q hq => (hbel.trans hw').block q hq)
          have hjn : Hid (je (cs.take (j + 1)) = je (cs.take j) ++ (vi 9 L ++ cs.getD j [])) := by
            have := je_next cs j hj2
            rw [← List.getD_eq_getElem?_getD, hB.1] at this
            exact this
          clear hrow h hB hcell0
          go_wp2_with (go_at_call 12; refine (appendBytes_any _ _ w.heap.size A L C (cs.getD j []) wr hL hown hsrc.out hA hsz hz).mono ?_; rintro e w' ⟨v2, rfl, ho2, hb3⟩)
          go_roundw
          case rel => exact ⟨j + 1, by omega, by go_num, by rw [hjn.out]; exact ho2, hbel.trans hb3⟩
          case measure => simp [intOf]; omega
        · have hjk : j = k := by omega
          subst hjk
          go_wp2
          go_ret
          refine ⟨_, rfl, ?_, hbel⟩
          rw [List.take_of_length_le (by rw [hcs1.out]; omega)] at hown
          exact hown

end Go.Proofs.Qxb6628526a
