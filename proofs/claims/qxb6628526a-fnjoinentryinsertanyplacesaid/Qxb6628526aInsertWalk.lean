/-
  THE WALK OF FnJoinEntryInsertAnyPlace (3): it returns true and writes nothing that was there.
-/
import Derived.Test.Qxb6628526aInsertLaws
import Derived.Deep.DeepCutAuto
namespace Go.Proofs.Qxb6628526a
open Go.RowKit Go.WideShapes Plain

set_option maxHeartbeats 1600000 in
set_option maxRecDepth 100000 in
theorem insert_walk (a b : Option Addr) (n m ca cb : Nat) (i : Int) (us : List (List Int)) (cz : List Int) (w : World) (ha : Rws w a n us) (hc : Bts w b m cz) (hcb : b = none → cb = 0) :
    Calls Try.prog 3 #[.slice a n ca, .int .i64 i, .slice b m cb] w fun e w' => e = .returned (.bool true) ∧ Below w.heap.size w w' := by
  by_cases hsz : n ≤ 1048576 ∧ m ≤ 1048576 ∧ m + 24 * n ≤ 1048576
  · obtain ⟨hn, hm, hnm⟩ := hsz
    go_enter Try.func3, Try.ntmps3
    go_wp2_with fail
    refine (zzBytes5_any a b n m ca cb i us w ha).mono ?_
    rintro e w ⟨⟨r, rfl⟩, rfl⟩
    cases r
    · go_wp2
      go_ret
      exact ⟨rfl, Below.refl _ _⟩
    · go_wp2_with fail
      go_loop [7, 8] (fun s i => ∃ (k : Nat) (r : Int), k ≤ n ∧ i = .int .i64 k ∧ s = .int .i64 r ∧ 0 ≤ r ∧ r ≤ 1048576 ∧ Hid (∀ j, j < k → (us.getD j []).length ≤ 1048576)) (fun _ i => n - (intOf i).toNat)
      case atStart => exact ⟨0, _, Nat.zero_le _, rfl, rfl, by omega, by omega, fun j hj => by omega⟩
      case round =>
        obtain ⟨k, r, hk, rfl, rfl, hr0, hr1, hus⟩ := hrel
        by_cases hlt : k < n
        · obtain ⟨x, off, hx, hrow⟩ := ha.at (by omega)
          subst hx
          obtain ⟨A, L, C, hcell, hA, hB⟩ := hrow k hlt
          have hL : Hid ((us.getD k []).length = L) := hB.1
          clear hrow ha hc hcb hA hB
          go_wp2
          · go_ret
            exact ⟨rfl, Below.refl _ _⟩
          · go_ret
            exact ⟨rfl, Below.refl _ _⟩
          · have hL2 : (L : Int) ≤ 1048576 := by assumption
            go_round
            case rel =>
              refine ⟨k + 1, _, by omega, by go_num, rfl, by omega, by omega, fun j hj => ?_⟩
              by_cases hjk : j = k
              · rw [hjk, hL.out]; omega
              · exact hus.out j (by omega)
            case measure => simp [intOf]; omega
        · obtain rfl : k = n := by omega
          clear hlt hk
          by_cases hi0 : i < 0
          · go_wp2
            go_ret
            exact ⟨rfl, Below.refl _ _⟩
          · by_cases hi1 : (k : Int) < i
            · go_wp2
              go_ret
              exact ⟨rfl, Below.refl _ _⟩
            · obtain ⟨ii, rfl⟩ := Int.eq_ofNat_of_zero_le (show 0 ≤ i by omega)
              have hik : ii ≤ k := by omega
              have hlu : Hid (us.length = k) := ha.1
              have hu1 : ∀ c ∈ us, c.length ≤ 1048576 := fun c hc => by
                obtain ⟨q, hq, rfl⟩ := List.getElem_of_mem hc
                have := hus.out q (by rw [← hlu.out]; exact hq)
                simpa [hq] using this
              go_wp2_with fail
              refine (join_any a k ca us w ha (by omega) hu1).mono ?_
              rintro e w1 ⟨v1, rfl, ho1, hb1⟩
              obtain ⟨g1, c1, hv1', hg1, hg1', hc1, hm1, hB1⟩ := ho1.at (je_pos _)
              subst hv1'
              have ha1 : Rws w1 a k us := ha.later hb1.block
              have hc1' : Bts w1 b m cz := hc.later hb1.block
              have hl1 : Hid (∀ q, (je (us.take q)).length ≤ 17592186044416) := fun q => by
                have h1 := je_len (us.take q) (fun c hc => hu1 c (List.mem_of_mem_take hc))
                have h2 : (us.take q).length ≤ us.length := List.length_take_le' _ _
                have h3 := hlu.out
                omega
              clear ho1 ha hc
              go_wp2_with fail
              go_loopw [10, 11, 12] (fun s p j wr => ∃ (t : Nat) (pv : Int), t ≤ k ∧ j = .int .i64 t ∧ s = .int .i64 (je (us.take t)).length ∧ p = .int .i64 pv ∧ Hid (ii < t → pv = (je (us.take ii)).length) ∧ Like w1 wr) (fun _ _ j _ => k - (intOf j).toNat)
              case atStart => exact ⟨0, 0, Nat.zero_le _, rfl, by rw [List.take_zero]; rfl, rfl, fun h => by omega, Like.refl _⟩
              case round =>
                obtain ⟨t, pv, ht, rfl, rfl, rfl, hpv, hlike⟩ := hrel
                have hS := hl1.out t
                by_cases hlt : t < k
                · obtain ⟨x, off, hx, hrow⟩ := ha1.at (by omega)
                  subst hx
                  obtain ⟨A, L, C, hcell, hA, hB⟩ := hrow t hlt
                  have ht2 : t < us.length := by rw [hlu.out]; exact hlt
                  have hL : L ≤ 1048576 := by rw [← hB.1]; exact hus.out t hlt
                  have hjn : Hid ((je (us.take (t + 1))).length = (je (us.take t)).length + ((vi 9 L).length + L)) := by
                    have h1 := je_next us t ht2
                    rw [← List.getD_eq_getElem?_getD, hB.1] at h1
                    unfold Hid
                    rw [h1, List.length_append, List.length_append, hB.1]
                  have g1 : wr.cell? ⟨x, off + t, none⟩ = some (.slice A L C) := (hlike.cell _).trans hcell
                  have hi1' : (t : Int) < (k : Int) := by omega
                  have hvi := vi_le 9 L
                  clear hrow ha1 hB hA hcell hc1' hB1 ht2
                  by_cases hti : t = ii
                  · have hti' : ((t : Int) == (ii : Int)) = true := by simp [hti]
                    have hti2 : Hid (t = ii) := hti
                    clear hti
                    go_wp2_with fail
                    go_quiet ((go_at_call 7; exact Calls.quiet_of_same (varintLen_any L _ hL)))
                    go_wp2
                    go_roundw
                    case rel => exact ⟨t + 1, _, by omega, by go_num, by rw [hjn.out]; go_num, rfl, fun _ => by rw [hti2.out], hlike.more _⟩
                    case measure => simp [intOf]; omega
                  · have hti' : ((t : Int) == (ii : Int)) = false := by simp; omega
                    go_wp2_with fail
                    go_quiet ((go_at_call 7; exact Calls.quiet_of_same (varintLen_any L _ hL)))
                    go_wp2
                    go_roundw
                    case rel => exact ⟨t + 1, _, by omega, by go_num, by rw [hjn.out]; go_num, rfl, fun h => hpv.out (by omega), hlike.more _⟩
                    case measure => simp [intOf]; omega
                · obtain rfl : t = k := by omega
                  have hall : Hid (us.take t = us) := List.take_of_length_le (by rw [hlu.out]; omega)
                  go_upto_if 98 with fail
                  go_cut [10, 11] (fun s p wc => s = .int .i64 (je us).length ∧ (∃ pp : Nat, p = .int .i64 pp ∧ Hid (pp = (je (us.take ii)).length)) ∧ wc = wr)
                  case first =>
                    by_cases hit : ii = t
                    · have hit' : ((ii : Int) == (t : Int)) = true := by simp [hit]
                      have hit2 : Hid (ii = t) := hit
                      clear hit
                      go_wp2
                      go_meet
                      case rel => exact ⟨by rw [hall.out], ⟨_, rfl, by unfold Hid; rw [hit2.out]⟩, rfl⟩
                    · have hit' : ((ii : Int) == (t : Int)) = false := by simp; omega
                      go_wp2
                      go_meet
                      case rel => exact ⟨by rw [hall.out], ⟨_, by rw [hpv.out (by omega)], rfl⟩, rfl⟩
                  case rest =>
                    obtain ⟨rfl, ⟨pp, rfl, hpp⟩, hwc⟩ := hcut
                    subst hwc
                    have hbelc : Below w.heap.size w wc := hb1.trans (hlike.below _)
                    have hszc : w.heap.size ≤ wc.heap.size := hbelc.size
                    have hB1c : Bts wc (some ⟨g1, 0, none⟩) (je us).length (je us) := hB1.later hlike.block
                    have hcc : Bts wc b m cz := hc1'.later hlike.block
                    have hac : Rws wc a t us := ha1.later hlike.block
                    have hg1c : g1 < wc.heap.size := by rw [hlike.size]; exact hg1'
                    obtain ⟨ps, hps, hpsu⟩ := hac.pairs
                    have hpsl : Hid (ps.length = t) := hps.1
                    have hrows : ∀ p ∈ ps, RowOf wc p.1 p.2 := hps.2.2.2
                    have hcell0 : wc.cell? ⟨g1, 0, none⟩ = some (.int .u8 1) := by
                      have h := hB1c.2.2 _ rfl 0 (je_pos us)
                      rw [add_plain] at h
                      exact h
                    have hlen0 : (0 : Int) < ((je us).length : Int) := by have := je_pos us; omega
                    have hlenb : (je us).length ≤ 17592186044416 := by
                      have h := hl1.out t
                      rw [hall.out] at h
                      exact h
                    have hppl : pp ≤ (je us).length := by
                      rw [hpp.out]
                      have e : je us = je (us.take ii) ++ body (us.drop ii) := by
                        have e := body_append (us.take ii) (us.drop ii)
                        rw [List.take_append_drop] at e
                        simp [je, e]
                      rw [e, List.length_append]
                      omega
                    have hcat : Hid (∀ x, a = some x → ∀ r p, ps[r]? = some p → wc.cell? (x.add r) = some p.1) := hps.2.2.1
                    have hnone : Hid (a = none → t = 0) := hps.2.1
                    have hpsu' : Hid (ps.map Prod.snd = us) := hpsu
                    clear hB1 hc1' ha1 hac hps hpsu hlike hb1 hg1' hpv hlt ht hS hi0 hi1
                    go_wp2_with (at_make; refine wpList_make_rows _ rfl _ _ rfl wc.heap.size _ _ _ rfl rfl (by omega) (by omega) (Nat.le_refl _) ?_)
                    intro vi0 wm hom hbm
                    have hszm := hbm.size
                    go_wp2_with fail
                    go_loopw [13, 14] (fun v j wz => ∃ q : Nat, q ≤ ii ∧ j = .int .i64 q ∧ OwnR wz wc.heap.size v (firsts (ps.take q)) ∧ Below wc.heap.size wc wz) (fun _ j _ => ii - (intOf j).toNat)
                    case atStart => exact ⟨0, Nat.zero_le _, rfl, hom, hbm⟩
                    case round =>
                      obtain ⟨q, hq, rfl, hown, hbz⟩ := hrel
                      have hszz := hbz.size
                      by_cases hlt : q < ii
                      · obtain ⟨x, off, A, L, C, hx, hcell, hnext⟩ := pair_at hnone.out hcat.out hrows hpsl.out (show q < t by omega) hbz
                        subst hx
                        have hq1 : (q : Int) < (t : Int) := by omega
                        have hel : (firsts (ps.take q)).length ≤ 4194304 := by have h1 := List.length_take_le q ps; rw [firsts_length]; omega
                        have hnx : Hid (firsts (ps.take (q + 1)) = firsts (ps.take q) ++ [.slice A L C]) := firsts_next hnext
                        clear hnext hcat hnone hrows
                        go_wp2_with (at_builtin; refine wpList_append_row _ rfl (.tmp 119) (.tmp 124) rfl wc.heap.size _ _ A L C rfl hown rfl hel hszz ?_)
                        intro v' w' ho' hb'
                        go_wp2
                        go_roundw
                        case rel => exact ⟨q + 1, by omega, by go_num, by rw [hnx.out]; exact ho', hbz.trans hb'⟩
                        case measure => simp [intOf]; omega
                      · obtain rfl : q = ii := by omega
                        have hel : (firsts (ps.take q)).length ≤ 4194304 := by have h1 := List.length_take_le q ps; rw [firsts_length]; omega
                        go_wp2_with (at_builtin; refine wpList_append_row _ rfl (.tmp 126) (.tmp 128) rfl wc.heap.size _ _ b m cb rfl hown rfl hel hszz ?_)
                        intro v5 w5 ho5 hb5
                        have hbel5 : Below wc.heap.size wc w5 := hbz.trans hb5
                        have ho5' := ho5
                        rw [← firsts_mid0 ps q (.slice b m cb, cz)] at ho5
                        clear ho5' hown hb5 hom hbm hbz
                        go_wp2_with fail
                        go_loopw [13, 15] (fun v j wy => ∃ z : Nat, q ≤ z ∧ z ≤ t ∧ j = .int .i64 z ∧ OwnR wy wc.heap.size v (firsts (mid ps q (.slice b m cb, cz) (z - q))) ∧ Below wc.heap.size wc wy) (fun _ j _ => t - (intOf j).toNat)
                        case atStart => exact ⟨q, Nat.le_refl _, by omega, rfl, by rw [Nat.sub_self]; exact ho5, hbel5⟩
                        case round =>
                          obtain ⟨z, hqz, hzt, rfl, hown, hby⟩ := hrel
                          have hszy := hby.size
                          by_cases hlt : z < t
                          · obtain ⟨x, off, A, L, C, hx, hcell, hnext⟩ := pair_at hnone.out hcat.out hrows hpsl.out hlt hby
                            subst hx
                            have hz1 : (z : Int) < (t : Int) := by omega
                            have hel : (firsts (mid ps q (.slice b m cb, cz) (z - q))).length ≤ 4194304 := by
                              rw [firsts_length]
                              unfold mid
                              have h1 := List.length_take_le q ps
                              have h2 := List.length_take_le (z - q) (ps.drop q)
                              rw [List.length_append, List.length_cons]
                              omega
                            have hnx : Hid (firsts (mid ps q (.slice b m cb, cz) (z + 1 - q)) = firsts (mid ps q (.slice b m cb, cz) (z - q)) ++ [.slice A L C]) := firsts_mid _ hqz hnext
                            clear hnext hcat hnone hrows ho5 hbel5
                            go_wp2_with (at_builtin; refine wpList_append_row _ rfl (.tmp 137) (.tmp 142) rfl wc.heap.size _ _ A L C rfl hown rfl hel hszy ?_)
                            intro v' w' ho' hb'
                            go_wp2
                            go_roundw
                            case rel => exact ⟨z + 1, by omega, by omega, by go_num, by rw [hnx.out]; exact ho', hby.trans hb'⟩
                            case measure => simp [intOf]; omega
                          · obtain rfl : z = t := by omega
                            have hfull := mid_full ps q z (.slice b m cb, cz) hpsl.out
                            have hflen := mid_length ps q z (.slice b m cb, cz) hpsl.out hqz
                            have hrowsy : ∀ p ∈ mid ps q (.slice b m cb, cz) (z - q), RowOf wr p.1 p.2 := by
                              intro p hp
                              rw [hfull] at hp
                              rcases List.mem_append.1 hp with h | h
                              · exact (hrows p (List.mem_of_mem_take h)).later hby.block
                              · rcases List.mem_cons.1 h with h | h
                                · subst h
                                  exact ⟨b, m, cb, rfl, hcb, hcc.later hby.block⟩
                                · exact (hrows p (List.mem_of_mem_drop h)).later hby.block
                            obtain ⟨a4, c4, hv4, hR4⟩ := hown.rwp hrowsy
                            have hus4 : (mid ps q (.slice b m cb, cz) (z - q)).map Prod.snd = us.take q ++ cz :: us.drop q := by
                              rw [hfull, List.map_append, List.map_cons, ← hpsu'.out, List.map_take, List.map_drop]
                            have hJ := hR4.rws
                            rw [hus4, hflen] at hJ
                            rw [hflen] at hv4
                            subst hv4
                            have hu4 : ∀ c ∈ us.take q ++ cz :: us.drop q, c.length ≤ 1048576 := by
                              intro c hc
                              rcases List.mem_append.1 hc with h | h
                              · exact hu1 c (List.mem_of_mem_take h)
                              · rcases List.mem_cons.1 h with h | h
                                · rw [h, hcc.1]; exact hm
                                · exact hu1 c (List.mem_of_mem_drop h)
                            have hlaw : Hid (je (us.take q ++ cz :: us.drop q) = (je us).take pp ++ vi 9 m ++ cz ++ (je us).drop pp) := by
                              have h := je_insert us cz q (by rw [hlu.out]; exact hqz)
                              rw [← hpp.out, hcc.1] at h
                              exact h
                            have hJH : Hid (Rws wr a4 (z + 1) (us.take q ++ cz :: us.drop q)) := hJ
                            clear hJ hus4 hR4 hrowsy hfull hflen hown hrows hcat hnone ho5
                            go_wp2_with fail
                            refine (join_any a4 (z + 1) c4 (us.take q ++ cz :: us.drop q) wr hJH.out (by omega) hu4).mono ?_
                            rintro e w6 ⟨v6, rfl, ho6, hb6⟩
                            obtain ⟨a6, n6, c6, hv6, hn6, hB6⟩ := ho6.named
                            subst hv6
                            have hsz6 := hb6.size
                            have blk6 : ∀ k, k < wc.heap.size → w6.heap[k]? = wc.heap[k]? := fun k hk => (hb6.block k (by omega)).trans (hby.block k hk)
                            have hB1k : Bts w6 (some ⟨g1, 0, none⟩) (je us).length (je us) := hB1c.later blk6
                            have hck : Bts w6 b m cz := hcc.later blk6
                            have hbel6 : Below w.heap.size w w6 := hbelc.trans ((hby.mono hszc).trans (hb6.mono (by omega)))
                            have hlen6 : n6 ≤ maxLen := by
                              have h1 := je_len _ hu4
                              have h2 : (us.take q ++ cz :: us.drop q).length = z + 1 := hJH.out.1
                              rw [← hn6, h2] at h1
                              unfold maxLen
                              omega
                            clear hn6
                            have hvl := vi_le 9 m
                            clear ho6 hb6 hJH hB1c hcc hbelc hby hcell0 blk6 hu4 hu1 hus
                            go_wp2_with fail
                            refine (varintLen_any m _ hm).mono ?_
                            rintro e w6 ⟨rfl, rfl⟩
                            go_wp2_with (at_make; refine wpList_make_bytes _ rfl _ _ rfl w6.heap.size _ _ _ rfl rfl (by omega) (by omega) (Nat.le_refl _) ?_)
                            intro v8 w8 ho8 hb8
                            have hsz8 := hb8.size
                            have hT8 : Bts w8 (some ⟨g1, 0, none⟩) pp ((je us).take pp) := (hB1k.take pp hppl).later hb8.block
                            have hpc : (pp : Int) ≤ (c1 : Int) := by omega
                            go_wp2_with (at_builtin; refine wpList_append_bytes _ rfl (.tmp 157) (.tmp 160) rfl w6.heap.size _ _ rfl ho8 _ _ _ ((je us).take pp) rfl hT8 (fun h => by cases h) ?_ ?_ ?_)
                            · have h1 := List.length_take_le' pp (je us)
                              simp only [List.length_nil]
                              omega
                            · exact hsz8
                            intro v9 w9 ho9 hb9
                            have hsz9 := hb9.size
                            have hl9 : ((je us).take pp).length ≤ 17592186044416 := by have h1 := List.length_take_le' pp (je us); omega
                            go_wp2_with fail
                            refine (ownVarint_any m v9 _ w6.heap.size w9 hm ho9 (by omega) hl9).mono ?_
                            rintro e w10 ⟨v10, rfl, ho10, hb10⟩
                            have hsz10 := hb10.size
                            have hb10' : Below w6.heap.size w6 w10 := (hb8.trans hb9).trans hb10
                            have hc10 : Bts w10 b m cz := hck.later hb10'.block
                            have hl10 : ((je us).take pp ++ vi 9 m).length + cz.length ≤ 70368744177664 := by rw [List.length_append, hck.1]; omega
                            clear ho8 ho9 hT8 hb8 hb9 hb10
                            go_wp2_with (at_builtin; refine wpList_append_bytes _ rfl (.tmp 167) (.tmp 168) rfl w6.heap.size _ _ rfl ho10 _ _ _ cz rfl hc10 hcb hl10 (by omega) ?_)
                            intro v11 w11 ho11 hb11
                            have hsz11 := hb11.size
                            have hb11' : Below w6.heap.size w6 w11 := hb10'.trans hb11
                            have hB11 : Bts w11 (some ⟨g1, 0, none⟩) (je us).length (je us) := hB1k.later hb11'.block
                            clear ho10 hc10 hb10' hb11
                            have hpl : (pp : Int) ≤ ((je us).length : Int) := by omega
                            go_wp2_with (at_builtin; refine wpList_append_bytes _ rfl (.tmp 170) (.tmp 173) rfl w6.heap.size _ _ rfl ho11 _ _ _ ((je us).drop pp) rfl ?_ ?_ ?_ ?_ ?_)
                            · have h0 : (je us).length ≤ pp := by omega
                              have e1 : (je us).length - pp = 0 := by omega
                              rw [e1, List.drop_eq_nil_of_le h0]
                              exact Bts.none_left _ _
                            · have h := hB11.drop pp hppl
                              rw [Nat.zero_add] at h
                              exact h
                            · simp only [List.length_append, List.length_drop, List.length_take, hck.1]
                              omega
                            · omega
                            all_goals
                              intro v12 w12 ho12 hb12
                              obtain ⟨a12, n12, c12, hv12, -, hB12⟩ := ho12.named
                              subst hv12
                              have hb12' : Below w6.heap.size w6 w12 := hb11'.trans hb12
                              have hB6' : Bts w12 a6 n6 (je (us.take q ++ cz :: us.drop q)) := hB6.later hb12'.block
                              clear ho12 ho11 hb12 hB11 hB6 hb11'
                              go_wp2_with fail
                              refine (equal_any a6 a12 n6 n12 c6 c12 _ _ w12 hB6' hB12 hlen6).mono ?_
                              rintro e w13 ⟨rfl, y, rfl⟩
                              go_wp2_with fail
                              go_ret
                              refine ⟨ret_bool ?_, hbel6.trans ((hb12'.mono (by have h := hbel6.size; omega)).trans ((Like.more (Like.refl w12) y).below _))⟩
                              rw [hlaw.out]
                              simp
  · go_enter Try.func3, Try.ntmps3
    go_wp2_with fail
    refine (zzBytes5_any a b n m ca cb i us w ha).mono ?_
    rintro e w ⟨⟨r, rfl⟩, rfl⟩
    clear ha hc hcb
    cases r
    · go_wp2
      go_ret
      exact ⟨rfl, Below.refl _ _⟩
    · by_cases h2 : m ≤ 1048576
      · by_cases h1 : n ≤ 1048576
        · have h3 : 1048576 < m + 24 * n := by omega
          clear hsz
          go_wp2
          go_ret
          exact ⟨rfl, Below.refl _ _⟩
        · clear hsz
          go_wp2
          go_ret
          exact ⟨rfl, Below.refl _ _⟩
      · clear hsz
        go_wp2
        go_ret
        exact ⟨rfl, Below.refl _ _⟩

end Go.Proofs.Qxb6628526a
