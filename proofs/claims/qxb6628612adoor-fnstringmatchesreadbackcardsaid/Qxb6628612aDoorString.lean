/-
  CONTRACTS OF (value.Value).String (7), kind by kind.
-/
import Derived.Test.Qxb6628612aDoorRows
import Derived.Test.Qxb6628612aDoorShelf
import Derived.Test.Qxb6628612aDoorPlain
import Derived.WalkKit
import Derived.WalkSpells
namespace Go.Proofs.Qxb6628612aDoor
open Go.RowKit Plain

theorem string_null (n : Int) (s : ByteArray) (w : World) :
    Calls Tryd.prog 7 #[.agg #[.int .i64 n, .string s, .int .u8 0]] w fun e w' => e = .returned (.string ⟨#[78, 85, 76, 76]⟩) ∧ Below w.heap.size w w' := by
  go_enter Tryd.func7, Tryd.ntmps7
  go_wp2
  go_ret
  exact ⟨rfl, (Below.refl _ _).alloc (Nat.le_refl _) _⟩

/-- The table stands as it stood in every later world. -/
theorem tab_later {w w' : World} {name : String} {k : IntKind} {zs : List Int} (h : Lib.TabIs Tryd.prog w name k zs) (hb : Below w.heap.size w w') : Lib.TabIs Tryd.prog w' name k zs := by
  unfold Lib.TabIs World.var? at h ⊢
  cases hg : Tryd.prog.globalNamed name with
  | none => rw [hg] at h; cases h
  | some g =>
    rw [hg] at h
    simp only [Option.bind_some] at h ⊢
    have hlt : g < w.heap.size := by
      cases hh : w.heap[g]? with
      | none => rw [hh] at h; cases h
      | some o => exact (Array.getElem?_eq_some_iff.1 hh).1
    rw [hb.block g hlt]
    exact h

theorem below_grow (B : Nat) (w : World) (hB : B ≤ w.heap.size) (k : Nat) (os : Array Obj) : Below B w (Go.Sort.grow (w.drewN k) os) :=
  ⟨rfl, rfl, rfl, by show w.heap.size ≤ (w.heap ++ os).size; simp, fun j hj => by show (w.heap ++ os)[j]? = _; rw [Array.getElem?_append_left (by omega)]⟩

theorem string_int (n : Int) (s : ByteArray) (w : World) (h0 : -9223372036854775808 ≤ n) (h1 : n ≤ 9223372036854775807) (htab : Lib.TabIs Tryd.prog w tabName .u64 Lib.pow10Tab) :
    Calls Tryd.prog 7 #[.agg #[.int .i64 n, .string s, .int .u8 1]] w fun e w' => e = .returned (.string ⟨(Lib.itoa n).toArray⟩) ∧ Below w.heap.size w w' := by
  have ht := fun o => tab_later htab ((Below.refl w.heap.size w).alloc (Nat.le_refl _) o)
  clear htab
  go_enter Tryd.func7, Tryd.ntmps7
  go_wp2_with fail
  refine (Tryd.strconv_FormatInt_10 n h0 h1 _ (ht _)).mono ?_
  rintro e w' ⟨rfl, k, os, hw⟩
  have hb : Below w.heap.size w w' := by
    rw [hw]
    exact ((Below.refl w.heap.size w).alloc (Nat.le_refl _) _).trans (below_grow _ _ (by simp) _ _)
  clear hw ht
  go_wp2_with fail
  go_ret
  exact ⟨rfl, hb⟩

theorem cells_snoc (l : List UInt8) (c : UInt8) : Lib.byteCells l ++ [.int .u8 c.toNat] = Lib.byteCells (l ++ [c]) := by simp [Lib.byteCells]
theorem cells_str (l m : List UInt8) : Lib.byteCells l ++ Lib.strCells ⟨m.toArray⟩ = Lib.byteCells (l ++ m) := by simp [Lib.byteCells, Lib.strCells]

/-- What has been written when k bytes of the text are through. -/
def part (s : ByteArray) (k : Nat) : List UInt8 := 39 :: (s.data.toList.take k).flatMap esc

theorem part_next (s : ByteArray) (k : Nat) (h : k < s.size) : part s (k + 1) = part s k ++ esc s[k] := by
  have h2 : k < s.data.toList.length := by simpa using h
  unfold part
  rw [List.take_succ_eq_append_getElem h2, List.flatMap_append]
  simp
  rfl

theorem part_len (s : ByteArray) (k : Nat) : (part s k).length ≤ 2 * k + 1 := by
  have h1 := flat_len (s.data.toList.take k)
  have h2 := List.length_take_le k s.data.toList
  simp only [part, List.length_cons]
  omega

theorem part_all (s : ByteArray) : part s s.size ++ [39] = qlit s.data.toList := by
  have e : s.data.toList.take s.size = s.data.toList := List.take_of_length_le (by simp)
  unfold part qlit
  rw [e]
  rfl

theorem u8_is {c d : UInt8} (h : c.toNat = d.toNat) : c = d := UInt8.toNat_inj.1 h
theorem esc_39 (c : UInt8) (h : ((c.toNat : Int) == 39) = true) : esc c = [39, 39] := by
  have h1 : c = 39 := u8_is (by simp only [beq_iff_eq] at h; have : (39 : UInt8).toNat = 39 := rfl; omega)
  subst h1
  decide
theorem esc_92 (c : UInt8) (h : ((c.toNat : Int) == 92) = true) : esc c = [92, 92] := by
  have h1 : c = 92 := u8_is (by simp only [beq_iff_eq] at h; have : (92 : UInt8).toNat = 92 := rfl; omega)
  subst h1
  decide
theorem esc_0 (c : UInt8) (h : ((c.toNat : Int) == 0) = true) : esc c = [92, 48] := by
  have h1 : c = 0 := u8_is (by simp only [beq_iff_eq] at h; have : (0 : UInt8).toNat = 0 := rfl; omega)
  subst h1
  decide
theorem esc_9 (c : UInt8) (h : ((c.toNat : Int) == 9) = true) : esc c = [92, 116] := by
  have h1 : c = 9 := u8_is (by simp only [beq_iff_eq] at h; have : (9 : UInt8).toNat = 9 := rfl; omega)
  subst h1
  decide
theorem esc_10 (c : UInt8) (h : ((c.toNat : Int) == 10) = true) : esc c = [92, 110] := by
  have h1 : c = 10 := u8_is (by simp only [beq_iff_eq] at h; have : (10 : UInt8).toNat = 10 := rfl; omega)
  subst h1
  decide
theorem esc_13 (c : UInt8) (h : ((c.toNat : Int) == 13) = true) : esc c = [92, 114] := by
  have h1 : c = 13 := u8_is (by simp only [beq_iff_eq] at h; have : (13 : UInt8).toNat = 13 := rfl; omega)
  subst h1
  decide
theorem esc_else (c : UInt8) (h1 : ((c.toNat : Int) == 39) = false) (h2 : ((c.toNat : Int) == 92) = false) (h3 : ((c.toNat : Int) == 0) = false) (h4 : ((c.toNat : Int) == 9) = false) (h5 : ((c.toNat : Int) == 10) = false) (h6 : ((c.toNat : Int) == 13) = false) : esc c = [c] := by
  rcases esc_cases c with ⟨a, _⟩ | ⟨a, _⟩ | ⟨a, _⟩ | ⟨a, _⟩ | ⟨a, _⟩ | ⟨a, _⟩ | ⟨_, _, _, _, _, _, e⟩
  · subst a; exact absurd h1 (by decide)
  · subst a; exact absurd h2 (by decide)
  · subst a; exact absurd h3 (by decide)
  · subst a; exact absurd h4 (by decide)
  · subst a; exact absurd h5 (by decide)
  · subst a; exact absurd h6 (by decide)
  · exact e

set_option maxHeartbeats 1600000 in
theorem string_text (n : Int) (s : ByteArray) (w : World) (hs : s.size ≤ 1048576) :
    Calls Tryd.prog 7 #[.agg #[.int .i64 n, .string s, .int .u8 2]] w fun e w' => e = .returned (.string ⟨(qlit s.data.toList).toArray⟩) ∧ Below w.heap.size w w' := by
  go_enter Tryd.func7, Tryd.ntmps7
  go_wp2_with fail
  refine (Tryd.Builder_Grow_fresh (w.heap.size + 1) (w.heap.size + 1) (s.size + 2) _ (Nat.le_refl _) ?_ ?_ ?_).mono ?_
  · have h := heap_alloc_new (w.alloc (Obj.cells #[Value.int IntKind.i64 n, Value.string s, Value.int IntKind.u8 2] 25)) (Obj.cells #[Value.pointer none, Value.slice none 0 0] 41)
    simpa using h
  · simp
  · omega
  rintro e w1 ⟨rfl, hB1, hb1⟩
  have hsz1 : w.heap.size + 2 ≤ w1.heap.size := by have := hb1.size; simp at this; omega
  have hc1 : w1.cell? ⟨w.heap.size, 1, none⟩ = some (.string s) := by
    rw [hb1.cell (p := ⟨w.heap.size, 1, none⟩) (by simp)]
    simp
  have hbel1 : Below w.heap.size w w1 := (((Below.refl _ _).alloc (Nat.le_refl _) _).alloc (by simp) _).trans (hb1.mono (by omega))
  clear hb1
  go_wp2_with fail
  refine (Tryd.Builder_WriteByte (w.heap.size + 1) (w.heap.size + 1) [] 39 w1 (.inr hB1) (by simp) (by omega)).mono ?_
  rintro e w2 ⟨rfl, hB2, hb2⟩
  have hc2 : w2.cell? ⟨w.heap.size, 1, none⟩ = some (.string s) := (hb2.cell (p := ⟨w.heap.size, 1, none⟩) (by simp)).trans hc1
  have hsz2 := hb2.size
  have hbel2 : Below w.heap.size w w2 := hbel1.trans (hb2.mono (by omega))
  clear hb2 hc1 hB1 hbel1
  go_wp2_with fail
  go_loopw [24] (fun i wr => ∃ k : Nat, k ≤ s.size ∧ i = .int .i64 k ∧ Lib.IsBuilder 41 5 (w.heap.size + 1) (w.heap.size + 1) (Lib.byteCells (part s k)) wr ∧ Below (w.heap.size + 1) w2 wr) (fun i _ => s.size - (intOf i).toNat)
  case atStart => exact ⟨0, Nat.zero_le _, rfl, .inr hB2, Below.refl _ _⟩
  case round =>
    obtain ⟨k, hk, rfl, hIs, hbr⟩ := hrel
    have hcr : wr.cell? ⟨w.heap.size, 1, none⟩ = some (.string s) := (hbr.cell (p := ⟨w.heap.size, 1, none⟩) (by simp)).trans hc2
    have hszr := hbr.size
    have hpl := part_len s k
    by_cases hlt : k < s.size
    · have hlen1 : (Lib.byteCells (part s k)).length + 1 ≤ 140737488355328 := by simp only [Lib.byteCells, List.length_map]; omega
      have hlen2 : (Lib.byteCells (part s k)).length + 2 ≤ 140737488355328 := by simp only [Lib.byteCells, List.length_map]; omega
      go_wp2_with fail
      · have he := esc_39 s[k] (by assumption)
        have he' : Hid (esc s[k] = [39, 39]) := he
        clear he
        refine (Tryd.Builder_WriteString (w.heap.size + 1) (w.heap.size + 1) _ ⟨#[39, 39]⟩ wr hIs hlen2 (by omega)).mono ?_
        rintro e w3 ⟨rfl, hB3, hb3⟩
        go_wp2_with fail
        go_roundw
        case rel => exact ⟨k + 1, by omega, by go_num, .inr (by rw [part_next s k hlt, he'.out, ← cells_str]; exact hB3), hbr.trans hb3⟩
        case measure => simp [intOf]; omega
      · have he := esc_92 s[k] (by assumption)
        have he' : Hid (esc s[k] = [92, 92]) := he
        clear he
        refine (Tryd.Builder_WriteString (w.heap.size + 1) (w.heap.size + 1) _ ⟨#[92, 92]⟩ wr hIs hlen2 (by omega)).mono ?_
        rintro e w3 ⟨rfl, hB3, hb3⟩
        go_wp2_with fail
        go_roundw
        case rel => exact ⟨k + 1, by omega, by go_num, .inr (by rw [part_next s k hlt, he'.out, ← cells_str]; exact hB3), hbr.trans hb3⟩
        case measure => simp [intOf]; omega
      · have he := esc_0 s[k] (by assumption)
        have he' : Hid (esc s[k] = [92, 48]) := he
        clear he
        refine (Tryd.Builder_WriteString (w.heap.size + 1) (w.heap.size + 1) _ ⟨#[92, 48]⟩ wr hIs hlen2 (by omega)).mono ?_
        rintro e w3 ⟨rfl, hB3, hb3⟩
        go_wp2_with fail
        go_roundw
        case rel => exact ⟨k + 1, by omega, by go_num, .inr (by rw [part_next s k hlt, he'.out, ← cells_str]; exact hB3), hbr.trans hb3⟩
        case measure => simp [intOf]; omega
      · have he := esc_9 s[k] (by assumption)
        have he' : Hid (esc s[k] = [92, 116]) := he
        clear he
        refine (Tryd.Builder_WriteString (w.heap.size + 1) (w.heap.size + 1) _ ⟨#[92, 116]⟩ wr hIs hlen2 (by omega)).mono ?_
        rintro e w3 ⟨rfl, hB3, hb3⟩
        go_wp2_with fail
        go_roundw
        case rel => exact ⟨k + 1, by omega, by go_num, .inr (by rw [part_next s k hlt, he'.out, ← cells_str]; exact hB3), hbr.trans hb3⟩
        case measure => simp [intOf]; omega
      · have he := esc_10 s[k] (by assumption)
        have he' : Hid (esc s[k] = [92, 110]) := he
        clear he
        refine (Tryd.Builder_WriteString (w.heap.size + 1) (w.heap.size + 1) _ ⟨#[92, 110]⟩ wr hIs hlen2 (by omega)).mono ?_
        rintro e w3 ⟨rfl, hB3, hb3⟩
        go_wp2_with fail
        go_roundw
        case rel => exact ⟨k + 1, by omega, by go_num, .inr (by rw [part_next s k hlt, he'.out, ← cells_str]; exact hB3), hbr.trans hb3⟩
        case measure => simp [intOf]; omega
      · have he := esc_13 s[k] (by assumption)
        have he' : Hid (esc s[k] = [92, 114]) := he
        clear he
        refine (Tryd.Builder_WriteString (w.heap.size + 1) (w.heap.size + 1) _ ⟨#[92, 114]⟩ wr hIs hlen2 (by omega)).mono ?_
        rintro e w3 ⟨rfl, hB3, hb3⟩
        go_wp2_with fail
        go_roundw
        case rel => exact ⟨k + 1, by omega, by go_num, .inr (by rw [part_next s k hlt, he'.out, ← cells_str]; exact hB3), hbr.trans hb3⟩
        case measure => simp [intOf]; omega
      · have he : Hid (esc s[k] = [s[k]]) := esc_else s[k] (by assumption) (by assumption) (by assumption) (by assumption) (by assumption) (by assumption)
        refine (Tryd.Builder_WriteByte (w.heap.size + 1) (w.heap.size + 1) _ _ wr hIs hlen1 (by omega)).mono ?_
        rintro e w3 ⟨rfl, hB3, hb3⟩
        go_wp2_with fail
        go_roundw
        case rel => exact ⟨k + 1, by omega, by go_num, .inr (by rw [part_next s k hlt, he.out, ← cells_snoc]; exact hB3), hbr.trans hb3⟩
        case measure => simp [intOf]; omega
    · obtain rfl : k = s.size := by omega
      have hlen1 : (Lib.byteCells (part s s.size)).length + 1 ≤ 140737488355328 := by simp only [Lib.byteCells, List.length_map]; omega
      go_wp2_with fail
      refine (Tryd.Builder_WriteByte (w.heap.size + 1) (w.heap.size + 1) _ 39 wr hIs hlen1 (by omega)).mono ?_
      rintro e w3 ⟨rfl, hB3, hb3⟩
      have hsz3 := hb3.size
      have hI3 : Lib.IsBuilder 41 5 (w.heap.size + 1) (w.heap.size + 1) (Lib.byteCells (qlit s.data.toList)) w3 := .inr (by rw [← part_all, ← cells_snoc]; exact hB3)
      clear hB3 hIs hB2
      go_wp2_with fail
      refine (Tryd.Builder_String_any (w.heap.size + 1) (w.heap.size + 1) (qlit s.data.toList) w3 hI3 (by omega)).mono ?_
      rintro e w4 ⟨rfl, hb4⟩
      go_wp2_with fail
      go_ret
      exact ⟨rfl, hbel2.trans (((hbr.trans hb3).trans hb4).mono (by omega))⟩

end Go.Proofs.Qxb6628612aDoor
