/-
  THE PLAIN SIDE OF SEAT b6628612aD: the qlit literal of a text, the numeral of an integer, and that a printout tells its value. No Go in sight.
-/
import Derived.Lib.ItoaNum
namespace Go.Proofs.Qxb6628612aDoor.Plain

/-- How one byte stands in a literal. -/
def esc (c : UInt8) : List UInt8 :=
  if c = 39 then [39, 39] else if c = 92 then [92, 92] else if c = 0 then [92, 48] else if c = 9 then [92, 116] else if c = 10 then [92, 110] else if c = 13 then [92, 114] else [c]

/-- The literal of a text. -/
def qlit (l : List UInt8) : List UInt8 := 39 :: (l.flatMap esc ++ [39])

theorem esc_len (c : UInt8) : 1 ≤ (esc c).length ∧ (esc c).length ≤ 2 := by
  unfold esc
  split
  · simp
  split
  · simp
  split
  · simp
  split
  · simp
  split
  · simp
  split <;> simp

theorem flat_len (l : List UInt8) : (l.flatMap esc).length ≤ 2 * l.length := by
  induction l with
  | nil => simp
  | cons c l ih => simp only [List.flatMap_cons, List.length_append, List.length_cons]; have := (esc_len c).2; omega

theorem esc_cases (c : UInt8) : (c = 39 ∧ esc c = [39, 39]) ∨ (c = 92 ∧ esc c = [92, 92]) ∨ (c = 0 ∧ esc c = [92, 48]) ∨ (c = 9 ∧ esc c = [92, 116]) ∨ (c = 10 ∧ esc c = [92, 110]) ∨ (c = 13 ∧ esc c = [92, 114]) ∨
    (c ≠ 39 ∧ c ≠ 92 ∧ c ≠ 0 ∧ c ≠ 9 ∧ c ≠ 10 ∧ c ≠ 13 ∧ esc c = [c]) := by
  by_cases h1 : c = 39
  · exact .inl ⟨h1, by subst h1; decide⟩
  by_cases h2 : c = 92
  · exact .inr (.inl ⟨h2, by subst h2; decide⟩)
  by_cases h3 : c = 0
  · exact .inr (.inr (.inl ⟨h3, by subst h3; decide⟩))
  by_cases h4 : c = 9
  · exact .inr (.inr (.inr (.inl ⟨h4, by subst h4; decide⟩)))
  by_cases h5 : c = 10
  · exact .inr (.inr (.inr (.inr (.inl ⟨h5, by subst h5; decide⟩))))
  by_cases h6 : c = 13
  · exact .inr (.inr (.inr (.inr (.inr (.inl ⟨h6, by subst h6; decide⟩)))))
  · exact .inr (.inr (.inr (.inr (.inr (.inr ⟨h1, h2, h3, h4, h5, h6, by simp [esc, h1, h2, h3, h4, h5, h6]⟩)))))

/-- The spellings of two bytes: none opens another. -/
theorem esc_open (c d : UInt8) (s t : List UInt8) (h : esc c ++ s = esc d ++ t) : c = d ∧ s = t := by
  rcases esc_cases c with ⟨a, e⟩ | ⟨a, e⟩ | ⟨a, e⟩ | ⟨a, e⟩ | ⟨a, e⟩ | ⟨a, e⟩ | ⟨a1, a2, a3, a4, a5, a6, e⟩ <;>
    rcases esc_cases d with ⟨b, f⟩ | ⟨b, f⟩ | ⟨b, f⟩ | ⟨b, f⟩ | ⟨b, f⟩ | ⟨b, f⟩ | ⟨b1, b2, b3, b4, b5, b6, f⟩ <;>
    (rw [e, f] at h; simp at h) <;> first | (subst a; subst b; exact ⟨rfl, h⟩) | exact absurd h.1 (by assumption) | exact absurd h.1.symm (by assumption) | exact h

theorem esc_ne (c : UInt8) : esc c ≠ [] := by
  intro h
  have := (esc_len c).1
  rw [h] at this
  simp at this

theorem flat_inj (l m : List UInt8) (h : l.flatMap esc = m.flatMap esc) : l = m := by
  induction l generalizing m with
  | nil =>
    cases m with
    | nil => rfl
    | cons d m =>
      simp only [List.flatMap_nil, List.flatMap_cons] at h
      have h1 := congrArg List.length h
      simp only [List.length_nil, List.length_append] at h1
      have := (esc_len d).1
      omega
  | cons c l ih =>
    cases m with
    | nil =>
      simp only [List.flatMap_nil, List.flatMap_cons] at h
      have h1 := congrArg List.length h
      simp only [List.length_nil, List.length_append] at h1
      have := (esc_len c).1
      omega
    | cons d m =>
      simp only [List.flatMap_cons] at h
      obtain ⟨rfl, h2⟩ := esc_open c d _ _ h
      rw [ih m h2]

theorem qlit_inj (l m : List UInt8) (h : qlit l = qlit m) : l = m := by
  unfold qlit at h
  simp at h
  exact flat_inj l m h

/-! ### numerals -/
/-- The number that a row of digits spells. -/
def num (l : List UInt8) : Nat := l.foldl (fun a c => a * 10 + (c.toNat - 48)) 0

theorem num_snoc (l : List UInt8) (c : UInt8) : num (l ++ [c]) = num l * 10 + (c.toNat - 48) := by simp [num]

theorem digit_toNat (k : Nat) (h : k < 10) : (UInt8.ofNat (48 + k)).toNat = 48 + k := by
  rw [UInt8.toNat_ofNat']
  omega

theorem num_dec (u : Nat) : num (Lib.decDigits u) = u := by
  induction u using Nat.strongRecOn with
  | _ u ih =>
    rw [Lib.decDigits]
    split
    · rename_i h
      simp only [num, List.foldl_cons, List.foldl_nil]
      rw [digit_toNat u h]
      omega
    · rename_i h
      rw [num_snoc, ih (u / 10) (by omega), digit_toNat (u % 10) (by omega)]
      omega

/-- Every byte of a numeral is a digit; it is not empty; it has no leading zero but at 0. -/
theorem dec_digits (u : Nat) : ∀ c ∈ Lib.decDigits u, 48 ≤ c.toNat ∧ c.toNat ≤ 57 := by
  induction u using Nat.strongRecOn with
  | _ u ih =>
    rw [Lib.decDigits]
    split
    · rename_i h
      intro c hc
      simp at hc
      subst hc
      have e := digit_toNat u h
      simp at e ⊢
      omega
    · rename_i h
      intro c hc
      rcases List.mem_append.1 hc with hc | hc
      · exact ih (u / 10) (by omega) c hc
      · simp only [List.mem_singleton] at hc
        subst hc
        rw [digit_toNat (u % 10) (by omega)]
        omega

theorem dec_ne (u : Nat) : Lib.decDigits u ≠ [] := by
  rw [Lib.decDigits]
  split <;> simp

theorem dec_head (u : Nat) (h : 1 ≤ u) : ∃ c l, Lib.decDigits u = c :: l ∧ 49 ≤ c.toNat ∧ c.toNat ≤ 57 := by
  induction u using Nat.strongRecOn with
  | _ u ih =>
    rw [Lib.decDigits]
    split
    · rename_i h9
      refine ⟨_, [], rfl, ?_⟩
      rw [digit_toNat u h9]
      omega
    · rename_i h9
      obtain ⟨c, l, e, h1, h2⟩ := ih (u / 10) (by omega) (by omega)
      exact ⟨c, l ++ [UInt8.ofNat (48 + u % 10)], by rw [e]; rfl, h1, h2⟩

theorem dec_inj (u v : Nat) (h : Lib.decDigits u = Lib.decDigits v) : u = v := by
  rw [← num_dec u, ← num_dec v, h]

/-- What a numeral opens with. -/
theorem itoa_head (n : Int) : ∃ c l, Lib.itoa n = c :: l ∧ ((c = 45 ∧ n < 0) ∨ (48 ≤ c.toNat ∧ c.toNat ≤ 57 ∧ 0 ≤ n)) := by
  unfold Lib.itoa
  split
  · exact ⟨45, _, rfl, .inl ⟨rfl, by assumption⟩⟩
  · cases h : Lib.decDigits n.toNat with
    | nil => exact absurd h (dec_ne _)
    | cons c l =>
      have := dec_digits n.toNat c (by rw [h]; simp)
      exact ⟨c, l, rfl, .inr ⟨this.1, this.2, by omega⟩⟩

theorem itoa_inj (n m : Int) (h : Lib.itoa n = Lib.itoa m) : n = m := by
  obtain ⟨c, l, e1, h1⟩ := itoa_head n
  obtain ⟨d, k, e2, h2⟩ := itoa_head m
  have hcd : c = d := by rw [e1, e2] at h; simp at h; exact h.1
  subst hcd
  have h45 : (45 : UInt8).toNat = 45 := rfl
  rcases h1 with ⟨rfl, hn⟩ | ⟨a1, a2, hn⟩ <;> rcases h2 with ⟨hc, hm⟩ | ⟨b1, b2, hm⟩
  · unfold Lib.itoa at h
    rw [if_pos hn, if_pos hm] at h
    simp at h
    have := dec_inj _ _ h
    omega
  · omega
  · subst hc; omega
  · unfold Lib.itoa at h
    rw [if_neg (by omega), if_neg (by omega)] at h
    have := dec_inj _ _ h
    omega

end Go.Proofs.Qxb6628612aDoor.Plain
