/-
  THE WALK OF FnSinceIsTrimmedWindow (3): it returns true and writes nothing that was there.
-/
import Derived.Test.Qxb6628654aSince
namespace Go.Proofs.Qxb6628654a
open Go.RowKit Go.WideShapes

/-- w' is w but for draws. -/
def Like (w w' : World) : Prop := ∃ q, w' = w.drewN q
theorem Like.refl (w : World) : Like w w := ⟨0, rfl⟩
theorem Like.more {w w' : World} (h : Like w w') (n : Nat) : Like w (w'.drewN n) := by
  obtain ⟨q, rfl⟩ := h
  exact ⟨q + n, World.drewN_drewN ..⟩
theorem Like.cell {w w' : World} (h : Like w w') (x : Addr) : w'.cell? x = w.cell? x := by
  obtain ⟨q, rfl⟩ := h
  rfl
theorem Like.frozen {w w' : World} (h : Like w w') (x : Addr) : w'.frozen? x = w.frozen? x := by
  obtain ⟨q, rfl⟩ := h
  rfl
theorem Like.below {w w' : World} (h : Like w w') (B : Nat) : Below B w w' := by
  obtain ⟨q, rfl⟩ := h
  exact ⟨rfl, rfl, rfl, Nat.le_refl _, fun _ _ => rfl⟩

set_option maxHeartbeats 1600000 in
set_option maxRecDepth 100000 in
theorem window_core (a : Option Addr) (n ca P O : Nat) (zs : List Int) (w : World) (h : Bts w a n zs) (hn : n ≤ 1048576) (hP : P ≤ n) (hO : O ≤ P) :
    Calls Try.prog 3 #[.slice a n ca, .int .i64 P, .int .i64 O] w fun e w' => e = .returned (.bool true) ∧ Below w.heap.size w w' := by
  have hn' : ¬ (1048576 : Int) < (n : Int) := by omega
  have hP1 : ¬ (P : Int) < 0 := by omega
  have hP2 : ¬ (n : Int) < (P : Int) := by omega
  have hO1 : ¬ (O : Int) < 0 := by omega
  have hO2 : ¬ (P : Int) < (O : Int) := by omega
  go_enter Try.func3, Try.ntmps3
  go_wp2_with fail
  refine (zzBytes5_any _ _ _ _ _ _).mono ?_
  rintro e w ⟨⟨r, rfl⟩, rfl⟩
  cases r
  · go_wp2
    go_ret
    exact ⟨rfl, Below.refl _ _⟩
  go_wp2_with fail
  refine (copy_any a n ca zs w h hn).mono ?_
  rintro e w1 ⟨rfl, hrow1, hb1, hs1⟩
  go_wp2_with fail
  refine (decoder_any w.heap.size n n P w1).mono ?_
  rintro e w2 ⟨rfl, hb2, hs2, hd0, hd1⟩
  have hrow2 : w2.rowIs w.heap.size 5 n (fun i => .int .u8 (zs.getD i 0)) := hrow1.of_block (hb2.block _ (by omega))
  have hbel2 : Below w.heap.size w w2 := hb1.trans (hb2.mono (by omega))
  have HS1 : Hid (w1.heap.size = w.heap.size + 1) := hs1
  clear hb1 hb2 hs1 hs2 hrow1
  go_wp2_with fail
  refine (since_any w1.heap.size w.heap.size n P O zs w2 hd0 hd1 (fun i hi => hrow2.cell hi) hn hP hO).mono ?_
  rintro e w3 ⟨k, A, hk0, hk, hblank, hbig, hA, rfl, hlike⟩
  obtain ⟨m, hm⟩ : ∃ m, P = k + m := ⟨P - k, by omega⟩
  subst hm
  rw [Nat.add_sub_cancel_left]
  have HL : Like w2 w3 := hlike
  clear hlike hd0 hd1
  have hdata : Bts w3 a n zs := h.later (fun q hq => ((HL.below _).block q hq).trans (hbel2.block q hq))
  have HB : Hid (∀ j, O ≤ j → j < k → zs.getD j 0 ≤ 32) := hblank
  have HG : Hid (k < k + m → 32 < zs.getD k 0) := hbig
  have HA : Hid (k < n → A = some ⟨w.heap.size, k, none⟩) := hA
  clear hblank hbig hA
  go_wp2_with fail
  have hrow3 : Hid (∀ i, i < n → w3.cell? ⟨w.heap.size, i, none⟩ = some (.int .u8 (zs.getD i 0))) := fun i hi => (HL.cell _).trans (hrow2.cell hi)
  have hfz3 : Hid (∀ i, w3.frozen? ⟨w.heap.size, i, none⟩ = false) := fun i => (HL.frozen _).trans (hrow2.frozen i)
  have hbel3 : Below w.heap.size w w3 := hbel2.trans (HL.below _)
  clear hrow2 hbel2 HL h
  go_loop [12] (fun i => ∃ j : Nat, O ≤ j ∧ j ≤ k ∧ i = .int .i64 j) (fun i => k - (intOf i).toNat)
  case atStart => exact ⟨O, Nat.le_refl _, hk0, rfl⟩
  case round =>
    obtain ⟨j, hj0, hj, rfl⟩ := hrel
    by_cases hlt : j < k
    · obtain ⟨b, off, hx, hc⟩ := hdata.at (by omega)
      subst hx
      have g1 := hc j (by omega)
      have hz := HB.out j hj0 hlt
      obtain ⟨z, hzz⟩ : ∃ z, z = zs.getD j 0 := ⟨_, rfl⟩
      rw [← hzz] at g1 hz
      have hlt' : (j : Int) < (n : Int) := by omega
      clear hc hdata hzz
      go_wp2
      go_round
      case rel => exact ⟨j + 1, by omega, by omega, by go_num⟩
      case measure => simp [intOf]; omega
    · obtain rfl : j = k := by omega
      clear hlt HB
      by_cases hm0 : m = 0
      · subst hm0
        clear HA HG hrow3 hfz3 hdata
        go_wp2_with fail
        go_loopw [13] (fun i wr => i = .int .i64 0 ∧ Like w3 wr) (fun _ _ => 0)
        case atStart => exact ⟨rfl, Like.refl _⟩
        case round =>
          obtain ⟨rfl, hlk⟩ := hrel
          go_wp2
          go_ret
          exact ⟨rfl, hbel3.trans (hlk.below _)⟩
      · obtain ⟨q, rfl⟩ : ∃ q, m = q + 1 := ⟨m - 1, by omega⟩
        have hA := HA.out (by omega)
        subst hA
        have hg := HG.out (by omega)
        have c0 := hrow3.out j (by omega)
        obtain ⟨z0, hz0⟩ : ∃ z, z = zs.getD j 0 := ⟨_, rfl⟩
        rw [← hz0] at c0 hg
        clear HA HG hm0 hz0
        go_wp2_with fail
        obtain ⟨b, off, hx, hc⟩ := hdata.at (by omega)
        subst hx
        have HC : Hid (∀ i, i < n → w3.cell? ⟨b, off + i, none⟩ = some (.int .u8 (zs.getD i 0))) := hc
        clear hc hdata c0 hg
        go_loopw [13] (fun i wr => ∃ t : Nat, t ≤ q + 1 ∧ i = .int .i64 t ∧ Like w3 wr) (fun i _ => q + 1 - (intOf i).toNat)
        case atStart => exact ⟨0, Nat.zero_le _, rfl, Like.refl _⟩
        case round =>
          obtain ⟨t, ht, rfl, hlk⟩ := hrel
          by_cases hlt : t < q + 1
          · obtain ⟨z, hzz⟩ : ∃ z, z = zs.getD (j + t) 0 := ⟨_, rfl⟩
            have g1 : wr.cell? ⟨w.heap.size, j + t, none⟩ = some (.int .u8 z) := by rw [hzz]; exact (hlk.cell _).trans (hrow3.out (j + t) (by omega))
            have g2 : wr.cell? ⟨b, off + (j + t), none⟩ = some (.int .u8 z) := by rw [hzz]; exact (hlk.cell _).trans (HC.out (j + t) (by omega))
            have hl1 : (t : Int) < (q : Int) + 1 := by omega
            have hl2 : (j : Int) + (t : Int) < (n : Int) := by omega
            clear hzz
            go_wp2_with fail
            go_quiet (fail)
            go_wp2
            go_roundw
            case rel => exact ⟨t + 1, by omega, by go_num, hlk.more _⟩
            case measure => simp [intOf]; omega
          · obtain rfl : t = q + 1 := by omega
            obtain ⟨z, hzz⟩ : ∃ z, z = zs.getD (j + q) 0 := ⟨_, rfl⟩
            have g1 : wr.cell? ⟨w.heap.size, j + q, none⟩ = some (.int .u8 z) := by rw [hzz]; exact (hlk.cell _).trans (hrow3.out (j + q) (by omega))
            have g3 : wr.frozen? ⟨w.heap.size, j + q, none⟩ = false := (hlk.frozen _).trans (hfz3.out _)
            have hl2 : (j : Int) + (q : Int) < (n : Int) := by omega
            clear hzz
            have hl3 : (q : Int) < (q : Int) + 1 := by omega
            go_wp2_with fail
            go_quiet (fail)
            go_wp2
            go_ret
            exact ⟨rfl, ((hbel3.trans (hlk.below _)).setCell (Nat.le_refl _) _).trans ((Like.more (Like.refl _) _).below _)⟩

set_option maxHeartbeats 800000 in
theorem window_walk (a : Option Addr) (n ca : Nat) (p o : Int) (zs : List Int) (w : World) (h : Bts w a n zs) :
    Calls Try.prog 3 #[.slice a n ca, .int .i64 p, .int .i64 o] w fun e w' => e = .returned (.bool true) ∧ Below w.heap.size w w' := by
  by_cases hn : n ≤ 1048576
  · by_cases hp0 : p < 0
    · clear h
      go_enter Try.func3, Try.ntmps3
      go_wp2_with fail
      refine (zzBytes5_any _ _ _ _ _ _).mono ?_
      rintro e w ⟨⟨r, rfl⟩, rfl⟩
      cases r <;> (go_wp2; go_ret; exact ⟨rfl, Below.refl _ _⟩)
    · by_cases hp1 : (n : Int) < p
      · clear h
        go_enter Try.func3, Try.ntmps3
        go_wp2_with fail
        refine (zzBytes5_any _ _ _ _ _ _).mono ?_
        rintro e w ⟨⟨r, rfl⟩, rfl⟩
        cases r <;> (go_wp2; go_ret; exact ⟨rfl, Below.refl _ _⟩)
      · by_cases ho0 : o < 0
        · clear h
          go_enter Try.func3, Try.ntmps3
          go_wp2_with fail
          refine (zzBytes5_any _ _ _ _ _ _).mono ?_
          rintro e w ⟨⟨r, rfl⟩, rfl⟩
          cases r <;> (go_wp2; go_ret; exact ⟨rfl, Below.refl _ _⟩)
        · by_cases ho1 : p < o
          · clear h
            go_enter Try.func3, Try.ntmps3
            go_wp2_with fail
            refine (zzBytes5_any _ _ _ _ _ _).mono ?_
            rintro e w ⟨⟨r, rfl⟩, rfl⟩
            cases r <;> (go_wp2; go_ret; exact ⟨rfl, Below.refl _ _⟩)
          · obtain ⟨P, rfl⟩ := Int.eq_ofNat_of_zero_le (show 0 ≤ p by omega)
            obtain ⟨O, rfl⟩ := Int.eq_ofNat_of_zero_le (show 0 ≤ o by omega)
            exact window_core a n ca P O zs w h hn (by omega) (by omega)
  · clear h
    go_enter Try.func3, Try.ntmps3
    go_wp2_with fail
    refine (zzBytes5_any _ _ _ _ _ _).mono ?_
    rintro e w ⟨⟨r, rfl⟩, rfl⟩
    cases r <;> (go_wp2; go_ret; exact ⟨rfl, Below.refl _ _⟩)

end Go.Proofs.Qxb6628654a
