/-
  CONTRACT OF readLiteralB1 (9) at a literal.
-/
import Derived.Test.Qxb6628612aDoorLaws
namespace Go.Proofs.Qxb6628612aDoor
open Go.RowKit Plain

/-- Where the j-th byte's spelling begins in the literal's body. -/
def pos (l : List UInt8) (j : Nat) : Nat := ((l.take j).flatMap esc).length

theorem pos_next (l : List UInt8) (j : Nat) (h : j < l.length) : pos l (j + 1) = pos l j + (esc l[j]).length := by
  unfold pos
  rw [List.take_succ_eq_append_getElem h, List.flatMap_append]
  simp

theorem flat_split (l : List UInt8) (j : Nat) (h : j < l.length) : ∃ r, l.flatMap esc = (l.take j).flatMap esc ++ (esc l[j] ++ r) := by
  refine ⟨(l.drop (j + 1)).flatMap esc, ?_⟩
  have e : l = l.take j ++ (l[j] :: l.drop (j + 1)) := by
    rw [← List.drop_eq_getElem_cons h, List.take_append_drop]
  have h2 : l.flatMap esc = (l.take j ++ (l[j] :: l.drop (j + 1))).flatMap esc := congrArg (fun x => x.flatMap esc) e
  rw [h2, List.flatMap_append, List.flatMap_cons]

theorem body_head (D : ByteArray) (l : List UInt8) (hD : D.data.toList = l.flatMap esc) (j : Nat) (h : j < l.length) (a : UInt8) (r : List UInt8) (e : esc l[j] = a :: r) : ∃ hp : pos l j < D.size, D[pos l j] = a := by
  obtain ⟨q, hq⟩ := flat_split l j h
  rw [e] at hq
  have hs : D.size = D.data.toList.length := by simp
  have hp : pos l j < D.size := by rw [hs, hD, hq]; simp [pos]
  refine ⟨hp, ?_⟩
  have h1 : D.data.toList[pos l j]? = some a := by
    rw [hD, hq, List.getElem?_append_right (by simp [pos])]
    simp [pos]
  have h2 : D.data.toList[pos l j]? = some D[pos l j] := by
    rw [List.getElem?_eq_getElem (by rw [← hs]; exact hp)]
    rfl
  rw [h2] at h1
  exact Option.some.inj h1

theorem body_second (D : ByteArray) (l : List UInt8) (hD : D.data.toList = l.flatMap esc) (j : Nat) (h : j < l.length) (a b : UInt8) (e : esc l[j] = [a, b]) : ∃ hp : pos l j + 1 < D.size, D[pos l j + 1] = b := by
  obtain ⟨q, hq⟩ := flat_split l j h
  rw [e] at hq
  have hs : D.size = D.data.toList.length := by simp
  have hp : pos l j + 1 < D.size := by rw [hs, hD, hq]; simp [pos]
  refine ⟨hp, ?_⟩
  have h1 : D.data.toList[pos l j + 1]? = some b := by
    rw [hD, hq, List.getElem?_append_right (by simp [pos])]
    simp [pos]
  have h2 : D.data.toList[pos l j + 1]? = some D[pos l j + 1] := by
    rw [List.getElem?_eq_getElem (by rw [← hs]; exact hp)]
    rfl
  rw [h2] at h1
  exact Option.some.inj h1

theorem pos_all (D : ByteArray) (l : List UInt8) (hD : D.data.toList = l.flatMap esc) : pos l l.length = D.size := by
  have hs : D.size = D.data.toList.length := by simp
  rw [hs, hD, pos, List.take_length]

theorem take_snoc (l : List UInt8) (j : Nat) (h : j < l.length) : l.take (j + 1) = l.take j ++ [l[j]] := List.take_succ_eq_append_getElem h

set_option maxHeartbeats 1600000 in
set_option maxRecDepth 100000 in
theorem literal_any (t : ByteArray) (l : List UInt8) (w : World) (h2 : 2 ≤ t.size) (hsz : t.size ≤ 4194304) (ha : ((t[0].toNat : Int) != 39) = false) (hb : ((t[t.size - 1].toNat : Int) != 39) = false)
    (hbody : (t.extract 1 (t.size - 1)).data.toList = l.flatMap esc) :
    Calls Tryd.prog 9 #[.string t] w fun e w' => e = .returned (.tuple #[.string ⟨l.toArray⟩, .bool true]) ∧ Below w.heap.size w w' := by
  have h3 : ¬ (t.size : Int) < 2 := by omega
  have HB : Hid ((t.extract 1 (t.size - 1)).data.toList = l.flatMap esc) := hbody
  clear hbody
  have hes : (t.extract 1 (t.size - 1)).size ≤ 4194304 := by simp; omega
  have hll : l.length ≤ 4194304 := by
    have h1 := flat_len l
    have h4 : ∀ m : List UInt8, m.length ≤ (m.flatMap esc).length := by
      intro m
      induction m with
      | nil => simp
      | cons c m ih => simp only [List.flatMap_cons, List.length_append, List.length_cons]; have := (esc_len c).1; omega
    have h5 := h4 l
    rw [← HB.out] at h5
    have h6 : (t.extract 1 (t.size - 1)).data.toList.length = (t.extract 1 (t.size - 1)).size := by simp
    omega
  have HE : Hid ((t.extract 1 (t.size - 1)).size ≤ 4194304) := hes
  clear hes
  go_enter Tryd.func9, Tryd.ntmps9
  go_wp2_with (at_make; refine wpList_make_bytes _ rfl _ _ rfl w.heap.size _ _ _ rfl rfl (by omega) (by omega) (Nat.le_refl _) ?_)
  intro v0 w0 ho0 hb0
  go_wp2_with fail
  generalize t.extract 1 (t.size - 1) = D at HB HE ⊢
  have hes := HE.out
  clear HE
  go_loopw [5, 6] (fun v i wr => ∃ j : Nat, j ≤ l.length ∧ i = .int .i64 (pos l j) ∧ OwnB wr w.heap.size v (l.take j) ∧ Below w.heap.size w wr) (fun _ i _ => D.size - (intOf i).toNat)
  case atStart => exact ⟨0, Nat.zero_le _, rfl, ho0, hb0⟩
  case round =>
    obtain ⟨j, hj, rfl, hown, hbel⟩ := hrel
    have hszr := hbel.size
    by_cases hlt : j < l.length
    · have hlen : (l.take j).length ≤ 70368744177664 := by have := List.length_take_le j l; omega
      have hnx := pos_next l j hlt
      have hts : Hid (l.take (j + 1) = l.take j ++ [l[j]]) := take_snoc l j hlt
      rcases esc_cases l[j] with ⟨a, e⟩ | ⟨a, e⟩ | ⟨a, e⟩ | ⟨a, e⟩ | ⟨a, e⟩ | ⟨a, e⟩ | ⟨a1, a2, a3, a4, a5, a6, e⟩
      · obtain ⟨hp, hd⟩ := body_head D l HB.out j hlt 39 [39] e
        obtain ⟨hp1, hd1⟩ := body_second D l HB.out j hlt 39 39 e
        have hp1' : (pos l j : Int) + 1 < (D.size : Int) := by omega
        have hnx' : Hid (pos l (j + 1) = pos l j + 2) := by unfold Hid; rw [hnx, e]; rfl
        have f1 : ((D[pos l j].toNat : Int) == 39) = true := by rw [hd]; rfl
        have g1 : ((D[pos l j + 1].toNat : Int) != 39) = false := by rw [hd1]; rfl
        clear hd hd1 hnx e
        go_wp2_with (at_builtin; refine wpList_append_byte _ rfl (.tmp 54) (.tmp 55) rfl w.heap.size _ _ (39 : UInt8) _ rfl rfl hown rfl hlen (by omega) ?_)
        intro v' w' ho' hb'
        go_wp2
        go_roundw
        case rel => exact ⟨j + 1, by omega, by rw [hnx'.out]; go_num, by rw [hts.out, a]; exact ho', hbel.trans hb'⟩
        case measure => simp [intOf]; omega
      · obtain ⟨hp, hd⟩ := body_head D l HB.out j hlt 92 [92] e
        obtain ⟨hp1, hd1⟩ := body_second D l HB.out j hlt 92 92 e
        have hp1' : (pos l j : Int) + 1 < (D.size : Int) := by omega
        have hnx' : Hid (pos l (j + 1) = pos l j + 2) := by unfold Hid; rw [hnx, e]; rfl
        have f1 : ((D[pos l j].toNat : Int) == 39) = false := by rw [hd]; rfl
        have f2 : ((D[pos l j].toNat : Int) == 92) = true := by rw [hd]; rfl
        have g92 : ((D[pos l j + 1].toNat : Int) == 92) = true := by rw [hd1]; rfl
        have g48 : ((D[pos l j + 1].toNat : Int) == 48) = false := by rw [hd1]; rfl
        have g116 : ((D[pos l j + 1].toNat : Int) == 116) = false := by rw [hd1]; rfl
        have g110 : ((D[pos l j + 1].toNat : Int) == 110) = false := by rw [hd1]; rfl
        have g114 : ((D[pos l j + 1].toNat : Int) == 114) = false := by rw [hd1]; rfl
        clear hd hd1 hnx e
        go_wp2_with (at_builtin; refine wpList_append_byte _ rfl (.tmp 73) (.tmp 74) rfl w.heap.size _ _ (92 : UInt8) _ rfl rfl hown rfl hlen (by omega) ?_)
        intro v' w' ho' hb'
        go_wp2
        go_roundw
        case rel => exact ⟨j + 1, by omega, by rw [hnx'.out]; go_num, by rw [hts.out, a]; exact ho', hbel.trans hb'⟩
        case measure => simp [intOf]; omega
      · obtain ⟨hp, hd⟩ := body_head D l HB.out j hlt 92 [48] e
        obtain ⟨hp1, hd1⟩ := body_second D l HB.out j hlt 92 48 e
        have hp1' : (pos l j : Int) + 1 < (D.size : Int) := by omega
        have hnx' : Hid (pos l (j + 1) = pos l j + 2) := by unfold Hid; rw [hnx, e]; rfl
        have f1 : ((D[pos l j].toNat : Int) == 39) = false := by rw [hd]; rfl
        have f2 : ((D[pos l j].toNat : Int) == 92) = true := by rw [hd]; rfl
        have g92 : ((D[pos l j + 1].toNat : Int) == 92) = false := by rw [hd1]; rfl
        have g48 : ((D[pos l j + 1].toNat : Int) == 48) = true := by rw [hd1]; rfl
        have g116 : ((D[pos l j + 1].toNat : Int) == 116) = false := by rw [hd1]; rfl
        have g110 : ((D[pos l j + 1].toNat : Int) == 110) = false := by rw [hd1]; rfl
        have g114 : ((D[pos l j + 1].toNat : Int) == 114) = false := by rw [hd1]; rfl
        clear hd hd1 hnx e
        go_wp2_with (at_builtin; refine wpList_append_byte _ rfl (.tmp 78) (.tmp 79) rfl w.heap.size _ _ (0 : UInt8) _ rfl rfl hown rfl hlen (by omega) ?_)
        intro v' w' ho' hb'
        go_wp2
        go_roundw
        case rel => exact ⟨j + 1, by omega, by rw [hnx'.out]; go_num, by rw [hts.out, a]; exact ho', hbel.trans hb'⟩
        case measure => simp [intOf]; omega
      · obtain ⟨hp, hd⟩ := body_head D l HB.out j hlt 92 [116] e
        obtain ⟨hp1, hd1⟩ := body_second D l HB.out j hlt 92 116 e
        have hp1' : (pos l j : Int) + 1 < (D.size : Int) := by omega
        have hnx' : Hid (pos l (j + 1) = pos l j + 2) := by unfold Hid; rw [hnx, e]; rfl
        have f1 : ((D[pos l j].toNat : Int) == 39) = false := by rw [hd]; rfl
        have f2 : ((D[pos l j].toNat : Int) == 92) = true := by rw [hd]; rfl
        have g92 : ((D[pos l j + 1].toNat : Int) == 92) = false := by rw [hd1]; rfl
        have g48 : ((D[pos l j + 1].toNat : Int) == 48) = false := by rw [hd1]; rfl
        have g116 : ((D[pos l j + 1].toNat : Int) == 116) = true := by rw [hd1]; rfl
        have g110 : ((D[pos l j + 1].toNat : Int) == 110) = false := by rw [hd1]; rfl
        have g114 : ((D[pos l j + 1].toNat : Int) == 114) = false := by rw [hd1]; rfl
        clear hd hd1 hnx e
        go_wp2_with (at_builtin; refine wpList_append_byte _ rfl (.tmp 83) (.tmp 84) rfl w.heap.size _ _ (9 : UInt8) _ rfl rfl hown rfl hlen (by omega) ?_)
        intro v' w' ho' hb'
        go_wp2
        go_roundw
        case rel => exact ⟨j + 1, by omega, by rw [hnx'.out]; go_num, by rw [hts.out, a]; exact ho', hbel.trans hb'⟩
        case measure => simp [intOf]; omega
      · obtain ⟨hp, hd⟩ := body_head D l HB.out j hlt 92 [110] e
        obtain ⟨hp1, hd1⟩ := body_second D l HB.out j hlt 92 110 e
        have hp1' : (pos l j : Int) + 1 < (D.size : Int) := by omega
        have hnx' : Hid (pos l (j + 1) = pos l j + 2) := by unfold Hid; rw [hnx, e]; rfl
        have f1 : ((D[pos l j].toNat : Int) == 39) = false := by rw [hd]; rfl
        have f2 : ((D[pos l j].toNat : Int) == 92) = true := by rw [hd]; rfl
        have g92 : ((D[pos l j + 1].toNat : Int) == 92) = false := by rw [hd1]; rfl
        have g48 : ((D[pos l j + 1].toNat : Int) == 48) = false := by rw [hd1]; rfl
        have g116 : ((D[pos l j + 1].toNat : Int) == 116) = false := by rw [hd1]; rfl
        have g110 : ((D[pos l j + 1].toNat : Int) == 110) = true := by rw [hd1]; rfl
        have g114 : ((D[pos l j + 1].toNat : Int) == 114) = false := by rw [hd1]; rfl
        clear hd hd1 hnx e
        go_wp2_with (at_builtin; refine wpList_append_byte _ rfl (.tmp 88) (.tmp 89) rfl w.heap.size _ _ (10 : UInt8) _ rfl rfl hown rfl hlen (by omega) ?_)
        intro v' w' ho' hb'
        go_wp2
        go_roundw
        case rel => exact ⟨j + 1, by omega, by rw [hnx'.out]; go_num, by rw [hts.out, a]; exact ho', hbel.trans hb'⟩
        case measure => simp [intOf]; omega
      · obtain ⟨hp, hd⟩ := body_head D l HB.out j hlt 92 [114] e
        obtain ⟨hp1, hd1⟩ := body_second D l HB.out j hlt 92 114 e
        have hp1' : (pos l j : Int) + 1 < (D.size : Int) := by omega
        have hnx' : Hid (pos l (j + 1) = pos l j + 2) := by unfold Hid; rw [hnx, e]; rfl
        have f1 : ((D[pos l j].toNat : Int) == 39) = false := by rw [hd]; rfl
        have f2 : ((D[pos l j].toNat : Int) == 92) = true := by rw [hd]; rfl
        have g92 : ((D[pos l j + 1].toNat : Int) == 92) = false := by rw [hd1]; rfl
        have g48 : ((D[pos l j + 1].toNat : Int) == 48) = false := by rw [hd1]; rfl
        have g116 : ((D[pos l j + 1].toNat : Int) == 116) = false := by rw [hd1]; rfl
        have g110 : ((D[pos l j + 1].toNat : Int) == 110) = false := by rw [hd1]; rfl
        have g114 : ((D[pos l j + 1].toNat : Int) == 114) = true := by rw [hd1]; rfl
        clear hd hd1 hnx e
        go_wp2_with (at_builtin; refine wpList_append_byte _ rfl (.tmp 93) (.tmp 94) rfl w.heap.size _ _ (13 : UInt8) _ rfl rfl hown rfl hlen (by omega) ?_)
        intro v' w' ho' hb'
        go_wp2
        go_roundw
        case rel => exact ⟨j + 1, by omega, by rw [hnx'.out]; go_num, by rw [hts.out, a]; exact ho', hbel.trans hb'⟩
        case measure => simp [intOf]; omega
      · obtain ⟨hp, hd⟩ := body_head D l HB.out j hlt l[j] [] e
        have hp' : (pos l j : Int) < (D.size : Int) := by omega
        have hnx' : Hid (pos l (j + 1) = pos l j + 1) := by unfold Hid; rw [hnx, e]; rfl
        have f39 : ((D[pos l j].toNat : Int) == 39) = false := by rw [hd]; exact beq_eq_false_iff_ne.2 (fun h => a1 (u8_is (by have : (39 : UInt8).toNat = 39 := rfl; omega)))
        have f92 : ((D[pos l j].toNat : Int) == 92) = false := by rw [hd]; exact beq_eq_false_iff_ne.2 (fun h => a2 (u8_is (by have : (92 : UInt8).toNat = 92 := rfl; omega)))
        have f0 : ((D[pos l j].toNat : Int) == 0) = false := by rw [hd]; exact beq_eq_false_iff_ne.2 (fun h => a3 (u8_is (by have : (0 : UInt8).toNat = 0 := rfl; omega)))
        have f9 : ((D[pos l j].toNat : Int) == 9) = false := by rw [hd]; exact beq_eq_false_iff_ne.2 (fun h => a4 (u8_is (by have : (9 : UInt8).toNat = 9 := rfl; omega)))
        have f10 : ((D[pos l j].toNat : Int) == 10) = false := by rw [hd]; exact beq_eq_false_iff_ne.2 (fun h => a5 (u8_is (by have : (10 : UInt8).toNat = 10 := rfl; omega)))
        have f13 : ((D[pos l j].toNat : Int) == 13) = false := by rw [hd]; exact beq_eq_false_iff_ne.2 (fun h => a6 (u8_is (by have : (13 : UInt8).toNat = 13 := rfl; omega)))
        have HDD : Hid ((D[pos l j].toNat : Int) = (l[j].toNat : Int)) := by unfold Hid; rw [hd]
        clear hd hnx e a1 a2 a3 a4 a5 a6
        go_wp2_with (at_builtin; refine wpList_append_byte _ rfl (.tmp 112) (.tmp 114) rfl w.heap.size _ _ l[j] _ HDD.out rfl hown rfl hlen (by omega) ?_)
        intro v' w' ho' hb'
        go_wp2
        go_roundw
        case rel => exact ⟨j + 1, by omega, by rw [hnx'.out]; go_num, ho', hbel.trans hb'⟩
        case measure => simp [intOf]; omega
    · obtain rfl : j = l.length := by omega
      have hpa := pos_all D l HB.out
      have hpa' : ¬ pos l l.length < D.size := by omega
      rw [List.take_length] at hown
      have hcv := hown.string
      clear hpa
      go_wp2
      go_ret2
      exact ⟨rfl, hbel⟩

end Go.Proofs.Qxb6628612aDoor
