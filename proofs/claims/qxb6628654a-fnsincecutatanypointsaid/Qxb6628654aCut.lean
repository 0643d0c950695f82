/-
  zzSinceEqual (10) AND THE WALK OF FnSinceCutAtAnyPoint (4): it returns true and writes nothing that was there.
-/
import Derived.Test.Qxb6628654aWindow
namespace Go.Proofs.Qxb6628654a
open Go.RowKit Go.WideShapes

/-- zzSinceEqual at two slices that hold the same bytes. -/
theorem equal_same (a b : Option Addr) (n ca cb : Nat) (xs : List Int) (w : World) (ha : Bts w a n xs) (hb : Bts w b n xs) (hn : n ≤ 1048576) :
    Calls Try.prog 10 #[.slice a n ca, .slice b n cb] w fun e w' => e = .returned (.bool true) ∧ Like w w' := by
  go_enter Try.func10, Try.ntmps10
  go_wp2_with fail
  go_loopw [5] (fun i wr => ∃ k : Nat, k ≤ n ∧ i = .int .i64 k ∧ Like w wr) (fun i _ => n - (intOf i).toNat)
  case atStart => exact ⟨0, Nat.zero_le _, rfl, Like.refl _⟩
  case round =>
    obtain ⟨k, hk, rfl, hlk⟩ := hrel
    by_cases hlt : k < n
    · obtain ⟨b1, o1, hx1, hc1⟩ := ha.at (by omega)
      obtain ⟨b2, o2, hx2, hc2⟩ := hb.at (by omega)
      subst hx1; subst hx2
      obtain ⟨z, hz⟩ : ∃ z, z = xs.getD k 0 := ⟨_, rfl⟩
      have g1 : wr.cell? ⟨b1, o1 + k, none⟩ = some (.int .u8 z) := by rw [hz]; exact (hlk.cell _).trans (hc1 k hlt)
      have g2 : wr.cell? ⟨b2, o2 + k, none⟩ = some (.int .u8 z) := by rw [hz]; exact (hlk.cell _).trans (hc2 k hlt)
      have hlt' : (k : Int) < (n : Int) := by omega
      clear hc1 hc2 ha hb hz
      go_wp2_with fail
      go_quiet (fail)
      go_wp2
      go_roundw
      case rel => exact ⟨k + 1, by omega, by go_num, hlk.more _⟩
      case measure => simp [intOf]; omega
    · go_wp2
      go_ret
      exact ⟨rfl, hlk⟩

/-- The window from k on, as a slice of bytes. -/
theorem window_bts {w : World} {g n k P : Nat} {zs : List Int} {A : Option Addr} (hr : ∀ i, i < n → w.cell? ⟨g, i, none⟩ = some (.int .u8 (zs.getD i 0))) (hk : k ≤ P) (hP : P ≤ n) (hz : zs.length = n) (hA : k < n → A = some ⟨g, k, none⟩) :
    Bts w A (P - k) ((zs.take P).drop k) := by
  refine ⟨by simp; omega, fun h => ?_, fun x hx i hi => ?_⟩
  · by_cases hkn : k < n
    · rw [hA hkn] at h; cases h
    · omega
  · rw [hA (by omega)] at hx
    cases hx
    rw [add_plain, hr (k + i) (by omega)]
    have h1 : k + i < P := by omega
    simp [h1]

/-- How the three answers of Since stand to each other: where the window up to B is not empty the two starts are one. -/
theorem starts_same {zs : List Int} {S B P kh kw : Nat} (hBP : B ≤ P) (h0 : S ≤ kh) (h1 : ∀ j, S ≤ j → j < kh → zs.getD j 0 ≤ 32) (h2 : kh < B → 32 < zs.getD kh 0) (w0 : S ≤ kw) (w1 : ∀ j, S ≤ j → j < kw → zs.getD j 0 ≤ 32) (w2 : kw < P → 32 < zs.getD kw 0) (hlt : kh < B) : kw = kh := by
  rcases Nat.lt_trichotomy kw kh with h | h | h
  · have a := h1 kw w0 h
    have b := w2 (by omega)
    omega
  · exact h
  · have a := w1 kh h0 h
    have b := h2 hlt
    omega

/-- .. and where it is empty, the whole is the tail. -/
theorem tails_same {zs : List Int} {S B P kw kt : Nat} (hBP : B ≤ P) (hS : S ≤ B) (h1 : ∀ j, S ≤ j → j < B → zs.getD j 0 ≤ 32) (wk : kw ≤ P) (w0 : S ≤ kw) (w1 : ∀ j, S ≤ j → j < kw → zs.getD j 0 ≤ 32) (w2 : kw < P → 32 < zs.getD kw 0)
    (tk : kt ≤ P) (t0 : B ≤ kt) (t1 : ∀ j, B ≤ j → j < kt → zs.getD j 0 ≤ 32) (t2 : kt < P → 32 < zs.getD kt 0) : kw = kt := by
  have hB : B ≤ kw := by
    rcases Nat.lt_or_ge kw B with h | h
    · have a := h1 kw w0 h
      have b := w2 (by omega)
      omega
    · exact h
  rcases Nat.lt_trichotomy kw kt with h | h | h
  · have a := t1 kw hB h
    have b := w2 (by omega)
    omega
  · exact h
  · have a := w1 kt (by omega) h
    have b := t2 (by omega)
    omega

/-- 'nothing above the space so far' (a name that the walk does not open) -/
def bl (kh j : Nat) : Bool := decide (j ≤ kh)

theorem bl_start (kh S : Nat) (h : S ≤ kh) : bl kh S = true := decide_eq_true h
theorem bl_hit {zs : List Int} {S kh j : Nat} (h0 : S ≤ j) (h1 : ∀ i, S ≤ i → i < kh → zs.getD i 0 ≤ 32) (hz : 32 < zs.getD j 0) : bl kh (j + 1) = false := by
  refine decide_eq_false (fun h => ?_)
  have := h1 j h0 (by omega)
  omega
theorem bl_miss {zs : List Int} {B kh j : Nat} (hj : j < B) (h2 : kh < B → 32 < zs.getD kh 0) (hz : zs.getD j 0 ≤ 32) : bl kh (j + 1) = bl kh j := by
  unfold bl
  apply decide_eq_decide.2
  constructor
  · intro h; omega
  · intro h
    rcases Nat.lt_or_ge j kh with h3 | h3
    · exact h3
    · have e : j = kh := by omega
      subst e
      have := h2 hj
      omega

/-- The place at which a Decoder's text is cut: what is known behind the three calls of Since. -/
structure Cuts (w : World) (g n P B S kw kt kh : Nat) (zs : List Int) (Aw At Ah : Option Addr) : Prop where
  row : ∀ i, i < n → w.cell? ⟨g, i, none⟩ = some (.int .u8 (zs.getD i 0))
  hz : zs.length = n
  w0 : S ≤ kw
  wk : kw ≤ P
  w1 : ∀ j, S ≤ j → j < kw → zs.getD j 0 ≤ 32
  w2 : kw < P → 32 < zs.getD kw 0
  wA : kw < n → Aw = some ⟨g, kw, none⟩
  t0 : B ≤ kt
  tk : kt ≤ P
  t1 : ∀ j, B ≤ j → j < kt → zs.getD j 0 ≤ 32
  t2 : kt < P → 32 < zs.getD kt 0
  tA : kt < n → At = some ⟨g, kt, none⟩
  h0 : S ≤ kh
  hk : kh ≤ B
  h1 : ∀ j, S ≤ j → j < kh → zs.getD j 0 ≤ 32
  h2 : kh < B → 32 < zs.getD kh 0
  hA : kh < n → Ah = some ⟨g, kh, none⟩

set_option maxHeartbeats 1600000 in
set_option maxRecDepth 100000 in
theorem cut_core (a : Option Addr) (n ca P S B : Nat) (zs : List Int) (w : World) (h : Bts w a n zs) (hn : n ≤ 1048576) (hP : P ≤ n) (hB : B ≤ P) (hS : S ≤ B) :
    Calls Try.prog 4 #[.slice a n ca, .int .i64 P, .int .i64 S, .int .i64 B] w fun e w' => e = .returned (.bool true) ∧ Below w.heap.size w w' := by
  have hn' : ¬ (1048576 : Int) < (n : Int) := by omega
  have hP1 : ¬ (P : Int) < 0 := by omega
  have hP2 : ¬ (n : Int) < (P : Int) := by omega
  have hB1 : ¬ (B : Int) < 0 := by omega
  have hB2 : ¬ (P : Int) < (B : Int) := by omega
  have hS1 : ¬ (S : Int) < 0 := by omega
  have hS2 : ¬ (B : Int) < (S : Int) := by omega
  go_enter Try.func4, Try.ntmps4
  go_wp2_with fail
  refine (zzBytes9_any _ _ _ _ _ _ _).mono ?_
  rintro e w ⟨⟨r, rfl⟩, rfl⟩
  cases r
  · go_wp2
    go_ret
    exact ⟨rfl, Below.refl _ _⟩
  go_wp2_with fail
  refine (copy_any a n ca zs w h hn).mono ?_
  rintro e w1 ⟨rfl, hrow1, hb1, hs1⟩
  have hrow1' : ∀ i, i < n → w1.cell? ⟨w.heap.size, i, none⟩ = some (.int .u8 (zs.getD i 0)) := fun i hi => hrow1.cell hi
  have HR1 : Hid (∀ i, i < n → w1.cell? ⟨w.heap.size, i, none⟩ = some (.int .u8 (zs.getD i 0))) := hrow1'
  have hlt1 : w.heap.size < w1.heap.size := by omega
  clear hrow1 hrow1' hs1
  go_wp2_with fail
  refine (decoder_any w.heap.size n n P w1).mono ?_
  rintro e w2 ⟨rfl, hb2, _, hd0, hd1⟩
  have HR2 : Hid (∀ i, i < n → w2.cell? ⟨w.heap.size, i, none⟩ = some (.int .u8 (zs.getD i 0))) := fun i hi => (hb2.cell (p := ⟨w.heap.size, i, none⟩) hlt1).trans (HR1.out i hi)
  have hbel2 : Below w.heap.size w w2 := hb1.trans (hb2.mono (by omega))
  have hlt2 : w.heap.size < w2.heap.size := by have := hb2.size; omega
  clear hb1 hb2 HR1
  go_wp2_with fail
  refine (since_any w1.heap.size w.heap.size n P S zs w2 hd0 hd1 HR2.out hn hP (by omega)).mono ?_
  rintro e w3 ⟨kw, Aw, w0, wk, wb, wg, wA, rfl, hl3⟩
  have HL3 : Like w2 w3 := hl3
  have HR3 : Hid (∀ i, i < n → w3.cell? ⟨w.heap.size, i, none⟩ = some (.int .u8 (zs.getD i 0))) := fun i hi => (HL3.cell _).trans (HR2.out i hi)
  have hbel3 : Below w.heap.size w w3 := hbel2.trans (HL3.below _)
  have hlt3 : w.heap.size < w3.heap.size := Nat.lt_of_lt_of_le hlt2 ((HL3.below 0).size)
  have HW : Hid ((∀ j, S ≤ j → j < kw → zs.getD j 0 ≤ 32) ∧ (kw < P → 32 < zs.getD kw 0) ∧ (kw < n → Aw = some ⟨w.heap.size, kw, none⟩)) := ⟨wb, wg, wA⟩
  clear hl3 HL3 hd0 hd1 HR2 hbel2 wb wg wA
  go_wp2_with fail
  refine (decoder_any w.heap.size n n P w3).mono ?_
  rintro e w4 ⟨rfl, hb4, _, hd0, hd1⟩
  have HR4 : Hid (∀ i, i < n → w4.cell? ⟨w.heap.size, i, none⟩ = some (.int .u8 (zs.getD i 0))) := fun i hi => (hb4.cell (p := ⟨w.heap.size, i, none⟩) hlt3).trans (HR3.out i hi)
  have hbel4 : Below w.heap.size w w4 := hbel3.trans (hb4.mono (by omega))
  have hlt4 : w.heap.size < w4.heap.size := by have := hb4.size; omega
  clear hb4 HR3 hbel3
  go_wp2_with fail
  refine (since_any w3.heap.size w.heap.size n P B zs w4 hd0 hd1 HR4.out hn hP hB).mono ?_
  rintro e w5 ⟨kt, At, t0, tk, tb, tg, tA, rfl, hl5⟩
  have HL5 : Like w4 w5 := hl5
  have HR5 : Hid (∀ i, i < n → w5.cell? ⟨w.heap.size, i, none⟩ = some (.int .u8 (zs.getD i 0))) := fun i hi => (HL5.cell _).trans (HR4.out i hi)
  have hbel5 : Below w.heap.size w w5 := hbel4.trans (HL5.below _)
  have hlt5 : w.heap.size < w5.heap.size := Nat.lt_of_lt_of_le hlt4 ((HL5.below 0).size)
  have HT : Hid ((∀ j, B ≤ j → j < kt → zs.getD j 0 ≤ 32) ∧ (kt < P → 32 < zs.getD kt 0) ∧ (kt < n → At = some ⟨w.heap.size, kt, none⟩)) := ⟨tb, tg, tA⟩
  clear hl5 HL5 hd0 hd1 HR4 hbel4 tb tg tA
  go_wp2_with fail
  refine (decoder_any w.heap.size n n B w5).mono ?_
  rintro e w6 ⟨rfl, hb6, _, hd0, hd1⟩
  have HR6 : Hid (∀ i, i < n → w6.cell? ⟨w.heap.size, i, none⟩ = some (.int .u8 (zs.getD i 0))) := fun i hi => (hb6.cell (p := ⟨w.heap.size, i, none⟩) hlt5).trans (HR5.out i hi)
  have hbel6 : Below w.heap.size w w6 := hbel5.trans (hb6.mono (by omega))
  clear hb6 HR5 hbel5
  go_wp2_with fail
  refine (since_any w5.heap.size w.heap.size n B S zs w6 hd0 hd1 HR6.out hn (by omega) hS).mono ?_
  rintro e w7 ⟨kh, Ah, h0, hk, hbk, hg, hA, rfl, hl7⟩
  have HL7 : Like w6 w7 := hl7
  have HR7 : Hid (∀ i, i < n → w7.cell? ⟨w.heap.size, i, none⟩ = some (.int .u8 (zs.getD i 0))) := fun i hi => (HL7.cell _).trans (HR6.out i hi)
  have hbel7 : Below w.heap.size w w7 := hbel6.trans (HL7.below _)
  have hdata : Bts w7 a n zs := h.later hbel7.block
  have HC : Hid (Cuts w7 w.heap.size n P B S kw kt kh zs Aw At Ah) := ⟨HR7.out, h.1, w0, wk, HW.out.1, HW.out.2.1, HW.out.2.2, t0, tk, HT.out.1, HT.out.2.1, HT.out.2.2, h0, hk, hbk, hg, hA⟩
  clear hl7 HL7 hd0 hd1 HR6 HR7 hbel6 hbk hg hA HW HT h
  go_wp2_with fail
  obtain ⟨mw, hmw⟩ : ∃ m, m = P - kw := ⟨_, rfl⟩
  obtain ⟨mt, hmt⟩ : ∃ m, m = P - kt := ⟨_, rfl⟩
  obtain ⟨mh, hmh⟩ : ∃ m, m = B - kh := ⟨_, rfl⟩
  rw [← hmw, ← hmt, ← hmh]
  have HMW : Hid (mw = P - kw) := hmw
  have HMT : Hid (mt = P - kt) := hmt
  have HMH : Hid (mh = B - kh) := hmh
  clear hmw hmt hmh
  go_loop [13, 14] (fun s i => ∃ j : Nat, S ≤ j ∧ j ≤ B ∧ i = .int .i64 j ∧ s = .bool (bl kh j)) (fun _ i => B - (intOf i).toNat)
  case atStart => exact ⟨S, Nat.le_refl _, hS, rfl, by rw [bl_start kh S h0]⟩
  case round =>
    obtain ⟨j, hj0, hj, rfl, rfl⟩ := hrel
    by_cases hlt : j < B
    · obtain ⟨b, off, hx, hc⟩ := hdata.at (by omega)
      subst hx
      have g1 := hc j (by omega)
      obtain ⟨z, hzz⟩ : ∃ z, z = zs.getD j 0 := ⟨_, rfl⟩
      rw [← hzz] at g1
      have HZ : Hid (z = zs.getD j 0) := hzz
      have hlt' : (j : Int) < (n : Int) := by omega
      have hlt'' : (j : Int) < (B : Int) := by omega
      clear hc hdata hzz
      by_cases hz : z ≤ 32
      · have hz' : ¬ (32 : Int) < z := by omega
        have e : bl kh (j + 1) = bl kh j := bl_miss hlt HC.out.h2 (by rw [← HZ.out]; exact hz)
        have E : Hid (bl kh (j + 1) = bl kh j) := e
        clear e
        go_wp2
        go_round
        case rel => exact ⟨j + 1, by omega, by omega, by go_num, by rw [E.out]⟩
        case measure => simp [intOf]; omega
      · have hz' : (32 : Int) < z := by omega
        have e : bl kh (j + 1) = false := bl_hit hj0 HC.out.h1 (by rw [← HZ.out]; exact hz')
        have E : Hid (bl kh (j + 1) = false) := e
        clear e
        go_wp2
        go_round
        case rel => exact ⟨j + 1, by omega, by omega, by go_num, by rw [E.out]⟩
        case measure => simp [intOf]; omega
    · obtain rfl : j = B := by omega
      clear hlt
      by_cases hkh : kh = j
      · have e1 : bl kh j = true := bl_start kh j (by omega)
        have e2 : mh = 0 := by have := HMH.out; omega
        rw [e1]
        subst e2
        clear e1
        have e3 : kw = kt := tails_same hB hS (fun i p q => HC.out.h1 i p (by omega)) wk w0 HC.out.w1 HC.out.w2 tk t0 HC.out.t1 HC.out.t2
        have hb1 : Bts w7 Aw mw ((zs.take P).drop kw) := by rw [HMW.out]; exact window_bts HC.out.row wk hP HC.out.hz HC.out.wA
        have hb2 : Bts w7 At mw ((zs.take P).drop kw) := by rw [HMW.out, e3]; exact window_bts HC.out.row tk hP HC.out.hz HC.out.tA
        have e4 : mt = mw := by rw [HMT.out, HMW.out, e3]
        have hmle : mw ≤ 1048576 := by have := HMW.out; omega
        subst e4
        clear e3 hdata
        go_wp2_with fail
        refine (equal_same Aw At mt _ _ _ w7 hb1 hb2 hmle).mono ?_
        rintro e w8 ⟨rfl, hlk⟩
        go_wp2
        go_ret
        exact ⟨rfl, hbel7.trans (hlk.below _)⟩
      · have hlt : kh < j := by omega
        have e1 : bl kh j = false := decide_eq_false (by omega)
        rw [e1]
        clear e1
        have e3 : kw = kh := starts_same hB h0 HC.out.h1 HC.out.h2 w0 HC.out.w1 HC.out.w2 hlt
        have eA := HC.out.hA (by omega)
        have eW := HC.out.wA (by omega)
        have hg := HC.out.h2 hlt
        have HR : Hid (∀ i, i < n → w7.cell? ⟨w.heap.size, i, none⟩ = some (.int .u8 (zs.getD i 0))) := HC.out.row
        have c0 := HR.out kh (by omega)
        subst e3
        obtain ⟨z0, hz0⟩ : ∃ z, z = zs.getD kw 0 := ⟨_, rfl⟩
        rw [← hz0] at c0 hg
        obtain ⟨x0, x1, -⟩ : mh ≠ 0 ∧ kw + mh = j ∧ True := by have := HMH.out; exact ⟨by omega, by omega, trivial⟩
        have x2 : kw + mw = P := by have := HMW.out; omega
        have X1 : Hid (kw + mh = j) := x1
        have X2 : Hid (kw + mw = P) := x2
        have hm1 : (0 : Int) < (mh : Int) := by omega
        have hm2 : ¬ (mh : Int) = 0 := by omega
        have hm3 : ((mw : Int) != (mh : Int) + ((P : Int) - (j : Int))) = false := by simp; omega
        have hm4 : (mh : Int) ≤ 1048576 := by omega
        have hm5 : (mw : Int) ≤ 1048576 := by omega
        have hg' : ¬ z0 ≤ 32 := by omega
        obtain ⟨b, off, hx, hc⟩ := hdata.at (by omega)
        have HD : Hid (∀ i, i < n → w7.cell? ⟨b, off + i, none⟩ = some (.int .u8 (zs.getD i 0))) := hc
        subst eA; subst eW; subst hx
        clear hc hdata hz0 x1 x2 hkh HC HMW HMT HMH
        go_wp2_with fail
        clear hm1 hm2 hm3 hg hg' c0
        go_loopw [16] (fun i wr => ∃ v : Nat, v ≤ mh ∧ i = .int .i64 v ∧ Like w7 wr) (fun i _ => mh - (intOf i).toNat)
        case atStart => exact ⟨0, Nat.zero_le _, rfl, Like.refl _⟩
        case round =>
          obtain ⟨v, hv, rfl, hlk⟩ := hrel
          by_cases hlv : v < mh
          · obtain ⟨z, hzz⟩ : ∃ z, z = zs.getD (kw + v) 0 := ⟨_, rfl⟩
            have g1 : wr.cell? ⟨w.heap.size, kw + v, none⟩ = some (.int .u8 z) := by rw [hzz]; exact (hlk.cell _).trans (HR.out (kw + v) (by have := X1.out; omega))
            have hl1 : (v : Int) < (mh : Int) := by omega
            have hl2 : (v : Int) < (mw : Int) := by have := X1.out; have := X2.out; omega
            clear hzz
            go_wp2_with fail
            go_quiet (fail)
            go_wp2
            go_roundw
            case rel => exact ⟨v + 1, by omega, by go_num, hlk.more _⟩
            case measure => simp [intOf]; omega
          · obtain rfl : v = mh := by omega
            clear hlv
            go_wp2_with fail
            go_loopw [17] (fun i wr => ∃ v : Nat, j ≤ v ∧ v ≤ P ∧ i = .int .i64 v ∧ Like w7 wr) (fun i _ => P - (intOf i).toNat)
            case atStart => exact ⟨j, Nat.le_refl _, hB, rfl, hlk⟩
            case round =>
              obtain ⟨y, hy0, hy, rfl, hlk⟩ := hrel
              by_cases hly : y < P
              · obtain ⟨x, hx⟩ : ∃ x, kw + x = y := ⟨y - kw, by omega⟩
                have hidx : (v : Int) + (y : Int) - (j : Int) = (x : Int) := by have := X1.out; omega
                have HX : Hid (kw + x = y) := hx
                obtain ⟨z, hzz⟩ : ∃ z, z = zs.getD y 0 := ⟨_, rfl⟩
                have g1 : wr.cell? ⟨w.heap.size, kw + x, none⟩ = some (.int .u8 z) := by rw [hzz, hx]; exact (hlk.cell _).trans (HR.out y (by omega))
                have g2 : wr.cell? ⟨b, off + y, none⟩ = some (.int .u8 z) := by rw [hzz]; exact (hlk.cell _).trans (HD.out y (by omega))
                have hl1 : (y : Int) < (P : Int) := by omega
                have hl2 : (y : Int) < (n : Int) := by omega
                have hl3 : (x : Int) < (mw : Int) := by have := X2.out; omega
                clear hzz hx
                go_wp2_with fail
                go_quiet (fail)
                go_wp2
                go_roundw
                case rel => exact ⟨y + 1, by omega, by omega, by go_num, hlk.more _⟩
                case measure => simp [intOf]; omega
              · go_wp2
                go_ret
                exact ⟨rfl, hbel7.trans (hlk.below _)⟩

set_option maxHeartbeats 1600000 in
set_option maxRecDepth 100000 in
theorem cut_walk (a : Option Addr) (n ca : Nat) (p s b : Int) (zs : List Int) (w : World) (h : Bts w a n zs) :
    Calls Try.prog 4 #[.slice a n ca, .int .i64 p, .int .i64 s, .int .i64 b] w fun e w' => e = .returned (.bool true) ∧ Below w.heap.size w w' := by
  by_cases hn : ¬ n ≤ 1048576
  · clear h
    go_enter Try.func4, Try.ntmps4
    go_wp2_with fail
    refine (zzBytes9_any _ _ _ _ _ _ _).mono ?_
    rintro e w ⟨⟨r, rfl⟩, rfl⟩
    cases r <;> (go_wp2; go_ret; exact ⟨rfl, Below.refl _ _⟩)
  rw [Decidable.not_not] at hn
  by_cases hp0 : p < 0
  · clear h
    go_enter Try.func4, Try.ntmps4
    go_wp2_with fail
    refine (zzBytes9_any _ _ _ _ _ _ _).mono ?_
    rintro e w ⟨⟨r, rfl⟩, rfl⟩
    cases r <;> (go_wp2; go_ret; exact ⟨rfl, Below.refl _ _⟩)
  by_cases hp1 : (n : Int) < p
  · clear h
    go_enter Try.func4, Try.ntmps4
    go_wp2_with fail
    refine (zzBytes9_any _ _ _ _ _ _ _).mono ?_
    rintro e w ⟨⟨r, rfl⟩, rfl⟩
    cases r <;> (go_wp2; go_ret; exact ⟨rfl, Below.refl _ _⟩)
  by_cases hb0 : b < 0
  · clear h
    go_enter Try.func4, Try.ntmps4
    go_wp2_with fail
    refine (zzBytes9_any _ _ _ _ _ _ _).mono ?_
    rintro e w ⟨⟨r, rfl⟩, rfl⟩
    cases r <;> (go_wp2; go_ret; exact ⟨rfl, Below.refl _ _⟩)
  by_cases hb1 : p < b
  · clear h
    go_enter Try.func4, Try.ntmps4
    go_wp2_with fail
    refine (zzBytes9_any _ _ _ _ _ _ _).mono ?_
    rintro e w ⟨⟨r, rfl⟩, rfl⟩
    cases r <;> (go_wp2; go_ret; exact ⟨rfl, Below.refl _ _⟩)
  by_cases hs0 : s < 0
  · clear h
    go_enter Try.func4, Try.ntmps4
    go_wp2_with fail
    refine (zzBytes9_any _ _ _ _ _ _ _).mono ?_
    rintro e w ⟨⟨r, rfl⟩, rfl⟩
    cases r <;> (go_wp2; go_ret; exact ⟨rfl, Below.refl _ _⟩)
  by_cases hs1 : b < s
  · clear h
    go_enter Try.func4, Try.ntmps4
    go_wp2_with fail
    refine (zzBytes9_any _ _ _ _ _ _ _).mono ?_
    rintro e w ⟨⟨r, rfl⟩, rfl⟩
    cases r <;> (go_wp2; go_ret; exact ⟨rfl, Below.refl _ _⟩)
  obtain ⟨P, rfl⟩ := Int.eq_ofNat_of_zero_le (show 0 ≤ p by omega)
  obtain ⟨B, rfl⟩ := Int.eq_ofNat_of_zero_le (show 0 ≤ b by omega)
  obtain ⟨S, rfl⟩ := Int.eq_ofNat_of_zero_le (show 0 ≤ s by omega)
  exact cut_core a n ca P S B zs w h hn (by omega) (by omega) (by omega)

end Go.Proofs.Qxb6628654a
