/-
  THE PLAIN SIDE OF SEAT b6628526a: base-128 varints and the bytes of a log entry, as lists of integers. No Go in sight.
-/
namespace Go.Proofs.Qxb6628526a.Plain

/-- The shortest base-128 varint of v, low group first; f + 1 groups at most. -/
def vi : Nat → Nat → List Int
  | 0, v => [(v : Int)]
  | f + 1, v => if v < 128 then [(v : Int)] else (((v % 128 + 128 : Nat) : Int) :: vi f (v / 128))

/-- What stands behind the format byte. -/
def body : List (List Int) → List Int
  | [] => []
  | c :: cs => vi 9 c.length ++ (c ++ body cs)

/-- The bytes of one log entry. -/
def je (cs : List (List Int)) : List Int := 1 :: body cs

theorem vi_small (f v : Nat) (h : v < 128) : vi f v = [(v : Int)] := by
  cases f with
  | zero => rfl
  | succ f => simp [vi, h]

theorem vi_big (f v : Nat) (h : 128 ≤ v) : vi (f + 1) v = (((v % 128 + 128 : Nat) : Int) :: vi f (v / 128)) := by
  simp only [vi]; rw [if_neg (by omega)]

theorem vi_pos (f v : Nat) : 1 ≤ (vi f v).length := by
  cases f with
  | zero => simp [vi]
  | succ f => simp only [vi]; split <;> simp

theorem vi_le (f v : Nat) : (vi f v).length ≤ f + 1 := by
  induction f generalizing v with
  | zero => simp [vi]
  | succ f ih =>
    simp only [vi]
    split
    · simp
    · simp only [List.length_cons]; have := ih (v / 128); omega

/-- Two varints with something behind each: where the one text opens the other, the numbers are the same and the rest opens the rest. -/
theorem vi_open (f m n : Nat) (s t r : List Int) (hm : m < 128 ^ (f + 1)) (hn : n < 128 ^ (f + 1)) (h : vi f m ++ s ++ r = vi f n ++ t) : m = n ∧ s ++ r = t := by
  induction f generalizing m n with
  | zero => simp [vi] at h; exact ⟨by omega, h.2⟩
  | succ f ih =>
    by_cases hm1 : m < 128 <;> by_cases hn1 : n < 128
    · rw [vi_small _ _ hm1, vi_small _ _ hn1] at h; simp at h; exact ⟨by omega, h.2⟩
    · rw [vi_small _ _ hm1, vi_big _ _ (by omega)] at h; simp at h; omega
    · rw [vi_big _ _ (by omega), vi_small _ _ hn1] at h; simp at h; omega
    · rw [vi_big _ _ (by omega), vi_big _ _ (by omega)] at h
      simp only [List.cons_append, List.cons.injEq] at h
      have e : 128 ^ (f + 1 + 1) = 128 * 128 ^ (f + 1) := by rw [Nat.pow_succ, Nat.mul_comm]
      have := ih (m / 128) (n / 128) (by rw [e] at hm; exact Nat.div_lt_of_lt_mul hm) (by rw [e] at hn; exact Nat.div_lt_of_lt_mul hn) h.2
      exact ⟨by omega, this.2⟩

theorem body_append (xs ys : List (List Int)) : body (xs ++ ys) = body xs ++ body ys := by
  induction xs with
  | nil => rfl
  | cons x xs ih => simp [body, ih, List.append_assoc]

theorem body_one (c : List Int) : body [c] = vi 9 c.length ++ c := by simp [body]

theorem je_snoc (xs : List (List Int)) (c : List Int) : je (xs ++ [c]) = je xs ++ (vi 9 c.length ++ c) := by
  simp [je, body_append, body_one]

/-- The entry of a opens the entry of b exactly when a opens b. -/
theorem je_opens (a b : List (List Int)) (ha : ∀ c ∈ a, c.length < 128 ^ 10) (hb : ∀ c ∈ b, c.length < 128 ^ 10) :
    (∃ r, body a ++ r = body b) ↔ ∃ r, a ++ r = b := by
  constructor
  · induction a generalizing b with
    | nil => intro _; exact ⟨b, rfl⟩
    | cons x xs ih =>
      intro ⟨r, hr⟩
      cases b with
      | nil =>
        have hp := vi_pos 9 x.length
        have h0 := congrArg List.length hr
        simp only [body, List.length_append, List.length_nil] at h0
        omega
      | cons y ys =>
        have hx := ha x (by simp)
        have hy := hb y (by simp)
        simp only [body] at hr
        have h1 := vi_open 9 x.length y.length (x ++ body xs) (y ++ body ys) r hx hy hr
        have h2 := h1.2
        rw [List.append_assoc] at h2
        have h3 := List.append_inj h2 h1.1
        obtain ⟨r', hr'⟩ := ih ys (fun c hc => ha c (by simp [hc])) (fun c hc => hb c (by simp [hc])) ⟨r, h3.2⟩
        exact ⟨r', by rw [h3.1, List.cons_append, hr']⟩
  · rintro ⟨r, rfl⟩
    exact ⟨body r, (body_append a r).symm⟩

/-- The same, said of lengths and first elements. -/
theorem je_take (a b : List (List Int)) (ha : ∀ c ∈ a, c.length < 128 ^ 10) (hb : ∀ c ∈ b, c.length < 128 ^ 10) :
    ((je a).length ≤ (je b).length ∧ je a = (je b).take (je a).length) ↔ (a.length ≤ b.length ∧ a = b.take a.length) := by
  have key := je_opens a b ha hb
  constructor
  · rintro ⟨_, h⟩
    have : ∃ r, body a ++ r = body b := by
      refine ⟨(je b).drop (je a).length, ?_⟩
      have e := List.take_append_drop (je a).length (je b)
      rw [← h] at e
      simpa [je] using e
    obtain ⟨r, rfl⟩ := key.1 this
    simp
  · rintro ⟨_, h⟩
    have : ∃ r, a ++ r = b := ⟨b.drop a.length, by
      have e := List.take_append_drop a.length b
      rw [← h] at e
      exact e⟩
    obtain ⟨r, hr⟩ := key.2 this
    have : je b = je a ++ r := by simp [je, ← hr]
    rw [this]
    simp

/-- A command put in at i: its varint and its bytes put in where the i-th command began. -/
theorem je_insert (cs : List (List Int)) (c : List Int) (i : Nat) (_hi : i ≤ cs.length) :
    je (cs.take i ++ c :: cs.drop i) = (je cs).take (je (cs.take i)).length ++ vi 9 c.length ++ c ++ (je cs).drop (je (cs.take i)).length := by
  have e : je cs = je (cs.take i) ++ body (cs.drop i) := by
    have e := body_append (cs.take i) (cs.drop i)
    rw [List.take_append_drop] at e
    simp [je, e]
  rw [e, List.take_left, List.drop_left]
  rw [show cs.take i ++ c :: cs.drop i = cs.take i ++ ([c] ++ cs.drop i) from rfl]
  rw [je, body_append, body_append, body_one]
  simp [je]

theorem len_body_le (cs : List (List Int)) : (body cs).length ≤ 10 * cs.length + (cs.map List.length).sum := by
  induction cs with
  | nil => simp [body]
  | cons c cs ih => simp [body]; have := vi_le 9 c.length; omega

theorem je_len (cs : List (List Int)) (h : ∀ c ∈ cs, c.length ≤ 1048576) : (je cs).length ≤ 1 + cs.length * 1048586 := by
  simp only [je, List.length_cons]
  have : (body cs).length ≤ cs.length * 1048586 := by
    induction cs with
    | nil => simp [body]
    | cons c cs ih =>
      have h1 := ih (fun c hc => h c (by simp [hc]))
      have h2 := h c (by simp)
      have h3 := vi_le 9 c.length
      simp only [body, List.length_append, List.length_cons]
      omega
  omega

theorem je_next (cs : List (List Int)) (k : Nat) (hk : k < cs.length) : je (cs.take (k + 1)) = je (cs.take k) ++ (vi 9 (cs[k]?.getD []).length ++ cs[k]?.getD []) := by
  rw [List.take_succ_eq_append_getElem hk, je_snoc]
  simp [hk]

end Go.Proofs.Qxb6628526a.Plain
