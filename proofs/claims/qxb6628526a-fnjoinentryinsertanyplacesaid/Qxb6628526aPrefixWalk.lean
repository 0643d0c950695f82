/-
  THE WALK OF FnJoinEntryPrefixExactlyWhenCommandsPrefix (4): it returns true and writes nothing that was there.
-/
import Derived.Test.Qxb6628526aBytes
import Derived.Deep.DeepCutAuto
namespace Go.Proofs.Qxb6628526a
open Go.RowKit Go.WideShapes Plain

/-- a's commands are the first of b's. -/
def lp (us vs : List (List Int)) : Bool := decide (us.length ≤ vs.length ∧ us = vs.take us.length)

theorem lp_true {us vs : List (List Int)} (h : us.length ≤ vs.length) (e : us.take us.length = vs.take us.length) : lp us vs = true := by
  rw [List.take_length] at e
  exact decide_eq_true ⟨h, e⟩
theorem lp_long {us vs : List (List Int)} (h : ¬ us.length ≤ vs.length) : lp us vs = false := decide_eq_false (fun hh => h hh.1)
theorem lp_part {us vs : List (List Int)} {t : Nat} (h : t < us.length) (e : us[t]?.getD [] ≠ vs[t]?.getD []) : lp us vs = false := by
  refine decide_eq_false (fun hh => e ?_)
  have h1 : us[t]? = (vs.take us.length)[t]? := congrArg (fun l => l[t]?) hh.2
  rw [h1, List.getElem?_take, if_pos h]
theorem take_on {us vs : List (List Int)} {t : Nat} (hu : t < us.length) (hv : t < vs.length) (h : us.take t = vs.take t) (e : us[t]?.getD [] = vs[t]?.getD []) : us.take (t + 1) = vs.take (t + 1) := by
  rw [List.take_succ_eq_append_getElem hu, List.take_succ_eq_append_getElem hv, h]
  simp only [List.getElem?_eq_getElem hu, List.getElem?_eq_getElem hv, Option.getD_some] at e
  rw [e]

theorem Own.at {w : World} {base : Nat} {v : Value} {zs : List Int} (h : Own w base v zs) (hz : 0 < zs.length) :
    ∃ g cap, v = .slice (some ⟨g, 0, none⟩) zs.length cap ∧ base ≤ g ∧ g < w.heap.size ∧ zs.length ≤ cap ∧ cap ≤ maxLen ∧ Bts w (some ⟨g, 0, none⟩) zs.length zs := by
  obtain ⟨a, cap', hv, _, _, _, hbts⟩ := h.bts
  rcases h.2 with ⟨hn, h0⟩ | ⟨g, cap, cur, hv2, hb, hg, hn, hm, hs, ht⟩
  · omega
  · rw [hv2] at hv
    simp only [Value.slice.injEq] at hv
    obtain ⟨rfl, _, rfl⟩ := hv
    exact ⟨g, cap, hv2, hb, (Array.getElem?_eq_some_iff.1 hg).1, hn, hm, hbts⟩

theorem Bts.take {w : World} {a : Option Addr} {n : Nat} {zs : List Int} (h : Bts w a n zs) (m : Nat) (hm : m ≤ n) : Bts w a m (zs.take m) := by
  have h1 := h.1
  refine ⟨by simp; omega, fun ha => by have := h.2.1 ha; omega, fun x hx i hi => ?_⟩
  rw [h.2.2 x hx i (by omega)]
  simp [hi]

theorem ret_bool {a b : Bool} (h : a = b) : Ending.returned (.bool a) = .returned (.bool b) := by rw [h]

theorem je_pos (us : List (List Int)) : 0 < (je us).length := by simp [je]

/-- w' is w but for draws. -/
def Like (w w' : World) : Prop := ∃ q, w' = w.drewN q
theorem Like.refl (w : World) : Like w w := ⟨0, rfl⟩
theorem Like.more {w w' : World} (h : Like w w') (n : Nat) : Like w (w'.drewN n) := by
  obtain ⟨q, rfl⟩ := h
  exact ⟨q + n, World.drewN_drewN ..⟩
theorem Like.block {w w' : World} (h : Like w w') : ∀ k, k < w.heap.size → w'.heap[k]? = w.heap[k]? := by
  obtain ⟨q, rfl⟩ := h
  intro k _
  rfl
theorem Like.cell {w w' : World} (h : Like w w') (x : Addr) : w'.cell? x = w.cell? x := by
  obtain ⟨q, rfl⟩ := h
  rfl
theorem Like.below {w w' : World} (h : Like w w') (B : Nat) : Below B w w' := by
  obtain ⟨q, rfl⟩ := h
  exact ⟨rfl, rfl, rfl, Nat.le_refl _, fun _ _ => rfl⟩
theorem Like.size {w w' : World} (h : Like w w') : w'.heap.size = w.heap.size := by
  obtain ⟨q, rfl⟩ := h
  rfl

set_option maxHeartbeats 1600000 in
set_option maxRecDepth 100000 in
theorem law_walk (a b : Option Addr) (n m ca cb : Nat) (us vs : List (List Int)) (w : World) (ha : Rws w a n us) (hb : Rws w b m vs) :
    Calls Try.prog 4 #[.slice a n ca, .slice b m cb] w fun e w' => e = .returned (.bool true) ∧ Below w.heap.size w w' := by
  by_cases hsz : n ≤ 1048576 ∧ m ≤ 1048576 ∧ 24 * n + 24 * m ≤ 1048576
  · obtain ⟨hn, hm, hnm⟩ := hsz
    go_enter Try.func4, Try.ntmps4
    go_wp2_with fail
    refine (zzBytes_any a b n m ca cb us vs w ha hb).mono ?_
    rintro e w ⟨⟨r, rfl⟩, rfl⟩
    cases r
    · go_wp2
      go_ret
      exact ⟨rfl, Below.refl _ _⟩
    · go_wp2_with fail
      go_loop [5, 6] (fun s i => ∃ (k : Nat) (r : Int), k ≤ n ∧ i = .int .i64 k ∧ s = .int .i64 r ∧ 0 ≤ r ∧ r ≤ 1048576 ∧ Hid (∀ j, j < k → (us.getD j []).length ≤ 1048576)) (fun _ i => n - (intOf i).toNat)
      case atStart => exact ⟨0, _, Nat.zero_le _, rfl, rfl, by omega, by omega, fun j hj => by omega⟩
      case round =>
        obtain ⟨k, r, hk, rfl, rfl, hr0, hr1, hus⟩ := hrel
        by_cases hlt : k < n
        · obtain ⟨x, off, hx, hrow⟩ := ha.at (by omega)
          subst hx
          obtain ⟨A, L, C, hcell, hA, hB⟩ := hrow k hlt
          have hL : Hid ((us.getD k []).length = L) := hB.1
          clear hrow ha hb hA hB
          go_wp2
          · go_ret
            exact ⟨rfl, Below.refl _ _⟩
          · go_ret
            exact ⟨rfl, Below.refl _ _⟩
          · have hL2 : (L : Int) ≤ 1048576 := by assumption
            go_round
            case rel =>
              refine ⟨k + 1, _, by omega, by go_num, rfl, by omega, by omega, fun j hj => ?_⟩
              by_cases hjk : j = k
              · rw [hjk, hL.out]; omega
              · exact hus.out j (by omega)
            case measure => simp [intOf]; omega
        · obtain rfl : k = n := by omega
          clear hlt hk
          go_wp2_with fail
          go_loop [5, 7] (fun s i => ∃ (j : Nat) (r : Int), j ≤ m ∧ i = .int .i64 j ∧ s = .int .i64 r ∧ 0 ≤ r ∧ r ≤ 1048576 ∧ Hid (∀ q, q < j → (vs.getD q []).length ≤ 1048576)) (fun _ i => m - (intOf i).toNat)
          case atStart => exact ⟨0, _, Nat.zero_le _, rfl, rfl, by omega, by omega, fun j hj => by omega⟩
          case round =>
            obtain ⟨j, r, hj, rfl, rfl, hr0, hr1, hvs⟩ := hrel
            by_cases hlt : j < m
            · obtain ⟨x, off, hx, hrow⟩ := hb.at (by omega)
              subst hx
              obtain ⟨A, L, C, hcell, hA, hB⟩ := hrow j hlt
              have hL : Hid ((vs.getD j []).length = L) := hB.1
              clear hrow ha hb hA hB
              go_wp2
              · go_ret
                exact ⟨rfl, Below.refl _ _⟩
              · go_ret
                exact ⟨rfl, Below.refl _ _⟩
              · have hL2 : (L : Int) ≤ 1048576 := by assumption
                go_round
                case rel =>
                  refine ⟨j + 1, _, by omega, by go_num, rfl, by omega, by omega, fun q hq => ?_⟩
                  by_cases hjk : q = j
                  · rw [hjk, hL.out]; omega
                  · exact hvs.out q (by omega)
                case measure => simp [intOf]; omega
            · obtain rfl : j = m := by omega
              clear hlt hj
              go_upto_if 81 with fail
              have hlu : Hid (us.length = k) := ha.1
              have hlv : Hid (vs.length = j) := hb.1
              go_cut [8] (fun s wc => s = .bool (lp us vs) ∧ Like w wc)
              case first =>
                by_cases hkj : k ≤ j
                · go_wp2_with fail
                  go_loopw [8, 9] (fun s i wr => ∃ t : Nat, t ≤ k ∧ i = .int .i64 t ∧ s = .bool true ∧ Like w wr ∧ Hid (us.take t = vs.take t)) (fun _ i _ => k - (intOf i).toNat)
                  case atStart => exact ⟨0, Nat.zero_le _, rfl, by simp, Like.refl _, rfl⟩
                  case round =>
                    obtain ⟨t, ht, rfl, rfl, hlike, hid⟩ := hrel
                    by_cases hlt : t < k
                    · obtain ⟨x1, o1, hx1, hrow1⟩ := ha.at (by omega)
                      obtain ⟨x2, o2, hx2, hrow2⟩ := hb.at (by omega)
                      subst hx1; subst hx2
                      obtain ⟨A1, L1, C1, hcell1, hA1, hB1⟩ := hrow1 t hlt
                      obtain ⟨A2, L2, C2, hcell2, hA2, hB2⟩ := hrow2 t (by omega)
                      have hi1 : (t : Int) < (k : Int) := by omega
                      have hi2 : (t : Int) < (j : Int) := by omega
                      have hL1 : L1 ≤ 1048576 := by rw [← hB1.1]; exact hus.out t (by omega)
                      have hE : Hid (∀ nq, Calls Try.prog 9 #[.slice A1 L1 C1, .slice A2 L2 C2] (wr.drewN nq) fun e w'' => e = .returned (.bool (decide (us.getD t [] = vs.getD t []))) ∧ ∃ m, w'' = wr.drewN m) := fun nq =>
                        Calls.quiet_of (equal_any A1 A2 L1 L2 C1 C2 _ _ (wr.drewN nq) (hB1.later (hlike.more nq).block) (hB2.later (hlike.more nq).block) (by unfold maxLen; omega))
                      have g1 : wr.cell? ⟨x1, o1 + t, none⟩ = some (.slice A1 L1 C1) := (hlike.cell _).trans hcell1
                      have g2 : wr.cell? ⟨x2, o2 + t, none⟩ = some (.slice A2 L2 C2) := (hlike.cell _).trans hcell2
                      clear hrow1 hrow2 hB1 hB2 hA1 hA2 ha hb hcell1 hcell2
                      go_wp2_with fail
                      go_quiet ((go_at_call 9; exact hE.out _))
                      go_wp2
                      · have hd : (!decide (us[t]?.getD [] = vs[t]?.getD [])) = true := by assumption
                        go_meet
                        case rel => exact ⟨by rw [lp_part (by rw [hlu.out]; exact hlt) (by simpa using hd)], hlike.more _⟩
                      · have hd : (!decide (us[t]?.getD [] = vs[t]?.getD [])) = false := by assumption
                        go_roundw
                        case rel => exact ⟨t + 1, by omega, by go_num, rfl, hlike.more _, take_on (by rw [hlu.out]; omega) (by rw [hlv.out]; omega) hid.out (by simpa using hd)⟩
                        case measure => simp [intOf]; omega
                    · obtain rfl : t = k := by omega
                      go_wp2
                      go_meet
                      case rel => exact ⟨by rw [lp_true (by rw [hlu.out, hlv.out]; exact hkj) (by rw [hlu.out]; exact hid.out)], hlike⟩
                · go_wp2
                  go_meet
                  case rel => exact ⟨by rw [lp_long (by rw [hlu.out, hlv.out]; exact hkj)], Like.refl _⟩
              case rest =>
                obtain ⟨rfl, hlike⟩ := hcut
                have hu1 : ∀ c ∈ us, c.length ≤ 1048576 := fun c hc => by
                  obtain ⟨q, hq, rfl⟩ := List.getElem_of_mem hc
                  have := hus.out q (by rw [← hlu.out]; exact hq)
                  simpa [hq] using this
                have hv1 : ∀ c ∈ vs, c.length ≤ 1048576 := fun c hc => by
                  obtain ⟨q, hq, rfl⟩ := List.getElem_of_mem hc
                  have := hvs.out q (by rw [← hlv.out]; exact hq)
                  simpa [hq] using this
                have hlaw : Hid (decide ((je us).length ≤ (je vs).length ∧ je us = (je vs).take (je us).length) = lp us vs) := by
                  have h1 := je_take us vs (fun c hc => by have := hu1 c hc; omega) (fun c hc => by have := hv1 c hc; omega)
                  unfold Hid lp
                  exact decide_eq_decide.2 h1
                go_wp2_with fail
                refine (join_any a k ca us _ (ha.later hlike.block) (by omega) hu1).mono ?_
                rintro e w1 ⟨v1, rfl, ho1, hb1⟩
                obtain ⟨g1, c1, hv1', hg1, hg1', hc1, hm1, hB1⟩ := ho1.at (je_pos _)
                subst hv1'
                clear ho1
                go_wp2_with fail
                have hbw : ∀ q, q < w.heap.size → w1.heap[q]? = w.heap[q]? := fun q hq => (hb1.block q (by rw [hlike.size]; exact hq)).trans (hlike.block q hq)
                refine (join_any b j cb vs w1 (hb.later hbw) (by omega) hv1).mono ?_
                rintro e w2 ⟨v2, rfl, ho2, hb2⟩
                obtain ⟨g2, c2, hv2', hg2, hg2', hc2, hm2, hB2⟩ := ho2.at (je_pos _)
                subst hv2'
                have hB1' : Bts w2 (some ⟨g1, 0, none⟩) (je us).length (je us) := hB1.later hb2.block
                have hbel : Below w.heap.size w w2 := (hlike.below _).trans ((hb1.mono (by rw [hlike.size]; omega)).trans (hb2.mono (by have h1 := hb1.size; have h2 := hlike.size; omega)))
                have hl1 : Hid ((je us).length ≤ 35184372088832) := by
                  have h1 := je_len us hu1
                  have h2 := hlu.out
                  unfold Hid
                  omega
                clear ho2 hB1 ha hb
                by_cases hle : (je us).length ≤ (je vs).length
                · have hB2' := hB2.take _ hle
                  have hmx : (je us).length ≤ maxLen := by have := hl1.out; unfold maxLen; omega
                  go_wp2_with fail
                  refine (equal_any _ _ _ _ _ _ (je us) ((je vs).take (je us).length) w2 hB1' hB2' hmx).mono ?_
                  rintro e w3 ⟨rfl, q, rfl⟩
                  go_wp2_with fail
                  go_ret
                  have hd := hlaw.out
                  refine ⟨ret_bool ?_, hbel.trans ((Like.more (Like.refl w2) q).below _)⟩
                  rw [← hd]
                  simp [hle]
                · have hd : lp us vs = false := by
                    rw [← hlaw.out]
                    exact decide_eq_false (fun hh => hle hh.1)
                  go_wp2_with fail
                  go_ret
                  exact ⟨rfl, hbel⟩
  · go_enter Try.func4, Try.ntmps4
    go_wp2_with fail
    refine (zzBytes_any a b n m ca cb us vs w ha hb).mono ?_
    rintro e w ⟨⟨r, rfl⟩, rfl⟩
    clear ha hb
    cases r
    · go_wp2
      go_ret
      exact ⟨rfl, Below.refl _ _⟩
    · by_cases h1 : n ≤ 1048576
      · by_cases h2 : m ≤ 1048576
        · have h3 : 1048576 < 24 * n + 24 * m := by omega
          clear hsz
          go_wp2
          go_ret
          exact ⟨rfl, Below.refl _ _⟩
        · clear hsz
          go_wp2
          go_ret
          exact ⟨rfl, Below.refl _ _⟩
      · clear hsz
        go_wp2
        go_ret
        exact ⟨rfl, Below.refl _ _⟩

end Go.Proofs.Qxb6628526a
