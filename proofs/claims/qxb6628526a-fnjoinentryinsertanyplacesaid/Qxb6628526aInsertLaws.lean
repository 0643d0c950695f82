/-
  FOR FnJoinEntryInsertAnyPlace: zzBytes (5); a slice of slices told as pairs (cell, bytes); 'ins = append(ins, row)'.
-/
import Derived.Test.Qxb6628526aPrefixWalk
import Derived.Test.Qxb6628526aOwnVarint
namespace Go.Proofs.Qxb6628526a
open Go.RowKit Go.WideShapes Plain

set_option maxHeartbeats 400000 in
theorem zzBytes5_any (a b : Option Addr) (n m ca cb : Nat) (i : Int) (us : List (List Int)) (w : World) (ha : Rws w a n us) :
    Calls Try.prog 5 #[.slice a n ca, .int .i64 i, .slice b m cb] w fun e w' => AnyBool e ∧ w' = w := by
  by_cases hn : n ≤ 1048576
  · go_enter Try.func5, Try.ntmps5
    go_wp2_with fail
    go_loop [7, 8] (fun s i => ∃ (k : Nat) (r : Int), k ≤ n ∧ i = .int .i64 k ∧ s = .int .i64 r) (fun _ i => n - (intOf i).toNat)
    case atStart => exact ⟨0, _, Nat.zero_le _, rfl, rfl⟩
    case round =>
      obtain ⟨k, r, hk, rfl, rfl⟩ := hrel
      by_cases hlt : k < n
      · obtain ⟨x, off, hx, hrow⟩ := ha.at (by omega)
        subst hx
        obtain ⟨A, L, C, hcell, hA, hB⟩ := hrow k hlt
        clear hrow ha hA hB
        go_wp2
        · go_ret
          exact ⟨anyBool _, rfl⟩
        · go_ret
          exact ⟨anyBool _, rfl⟩
        · go_round
          case rel => exact ⟨k + 1, _, by omega, by go_num, rfl⟩
          case measure => simp [intOf]; omega
      · clear ha
        go_wp2
        all_goals
          go_ret
          exact ⟨anyBool _, rfl⟩
  · go_enter Try.func5, Try.ntmps5
    go_wp2
    go_ret
    exact ⟨anyBool _, rfl⟩

/-- The cell v is a slice that holds the bytes zs. -/
def RowOf (w : World) (v : Value) (zs : List Int) : Prop := ∃ (A : Option Addr) (L C : Nat), v = .slice A L C ∧ (A = none → C = 0) ∧ Bts w A L zs

theorem RowOf.later {w w' : World} {v : Value} {zs : List Int} (h : RowOf w v zs) (hk : ∀ k, k < w.heap.size → w'.heap[k]? = w.heap[k]?) : RowOf w' v zs := by
  obtain ⟨A, L, C, hv, hc, hb⟩ := h
  exact ⟨A, L, C, hv, hc, hb.later hk⟩

/-- A slice of slices, told as pairs. -/
def Rwp (w : World) (a : Option Addr) (n : Nat) (ps : List (Value × List Int)) : Prop :=
  ps.length = n ∧ (a = none → n = 0) ∧ (∀ x, a = some x → ∀ r p, ps[r]? = some p → w.cell? (x.add r) = some p.1) ∧ ∀ p ∈ ps, RowOf w p.1 p.2

theorem Rwp.rws {w : World} {a : Option Addr} {n : Nat} {ps : List (Value × List Int)} (h : Rwp w a n ps) : Rws w a n (ps.map Prod.snd) := by
  obtain ⟨h1, h2, h3, h4⟩ := h
  refine ⟨by simpa using h1, h2, fun x hx r hr => ?_⟩
  have hr2 : r < ps.length := by omega
  have hp : ps[r]? = some ps[r] := List.getElem?_eq_getElem hr2
  obtain ⟨A, L, C, hv, hc, hb⟩ := h4 ps[r] (List.getElem_mem hr2)
  refine ⟨A, L, C, ?_, hc, ?_⟩
  · rw [h3 x hx r _ hp, hv]
  · have e : (ps.map Prod.snd).getD r [] = ps[r].2 := by simp [hr2]
    rw [e]
    exact hb

theorem Rws.pairs {w : World} {a : Option Addr} {n : Nat} {us : List (List Int)} (h : Rws w a n us) : ∃ ps, Rwp w a n ps ∧ ps.map Prod.snd = us := by
  obtain ⟨h1, h2, h3⟩ := h
  cases a with
  | none =>
    have h0 := h2 rfl
    have : us = [] := List.eq_nil_of_length_eq_zero (by omega)
    subst this
    exact ⟨[], ⟨h1, h2, (fun x hx => by cases hx), (fun p hp => by cases hp)⟩, rfl⟩
  | some x =>
    have hr := h3 x rfl
    have key : ∀ m, m ≤ n → ∃ ps : List (Value × List Int), ps.length = m ∧ (∀ r p, ps[r]? = some p → w.cell? (x.add r) = some p.1) ∧ (∀ p ∈ ps, RowOf w p.1 p.2) ∧ ps.map Prod.snd = us.take m := by
      intro m
      induction m with
      | zero => intro _; exact ⟨[], rfl, (fun r p hp => by simp at hp), (fun p hp => by cases hp), by simp⟩
      | succ m ih =>
        intro hm
        obtain ⟨ps, g1, g2, g3, g4⟩ := ih (by omega)
        obtain ⟨A, L, C, hc, hA, hB⟩ := hr m (by omega)
        have hm2 : m < us.length := by omega
        refine ⟨ps ++ [(.slice A L C, us.getD m [])], by simp [g1], fun r p hp => ?_, fun p hp => ?_, ?_⟩
        · by_cases hrm : r < ps.length
          · rw [List.getElem?_append_left hrm] at hp
            exact g2 r p hp
          · have hr2 := (List.getElem?_eq_some_iff.1 hp).1
            simp at hr2
            obtain rfl : r = ps.length := by omega
            simp at hp
            rw [← hp, g1]
            exact hc
        · rcases List.mem_append.1 hp with h | h
          · exact g3 p h
          · simp at h
            subst h
            exact ⟨A, L, C, rfl, hA, hB⟩
        · rw [List.map_append, g4, List.take_succ_eq_append_getElem hm2]
          simp [hm2]
    obtain ⟨ps, g1, g2, g3, g4⟩ := key n (Nat.le_refl _)
    refine ⟨ps, ⟨g1, h2, fun y hy r p hp => ?_, g3⟩, by rw [g4, List.take_of_length_le (by omega)]⟩
    cases hy
    exact g2 r p hp

theorem Try.info23 : (Try.prog.info? 23).map (fun i => (i.zero, i.size, i.bytes)) = some (some (.slice none 0 0), 1, 24) := by kernel_rfl

/-- The slice value v is the run's own and holds the slices es. -/
def OwnR (w : World) (base : Nat) (v : Value) (es : List Value) : Prop := w.ownsRow base 23 1 v es.length es

theorem OwnR.alloc {w : World} {base : Nat} {v : Value} {es : List Value} (h : OwnR w base v es) (o : Obj) : OwnR (w.alloc o) base v es := World.ownsRow.alloc h o

theorem wpList_append_row (w : World) {ops : Array Oper} {rest : List Oper} {o : Oper} {a : Act} {Q : Exit → Act → World → Prop} (hgd : o.guard = none) (s x : Operand)
    (ho : o.op = .call { callee := .builtin .append, args := #[s, x], argTypes := #[22, 22] })
    (base : Nat) (v : Value) (es : List Value) (A : Option Addr) (L C : Nat) (hs : a.eval s = v) (hown : OwnR w base v es)
    (hx : a.eval x = .slice (some ⟨w.heap.size, 0, none⟩) 1 1) (hlen : es.length ≤ 4194304) (hbase : base ≤ w.heap.size)
    (h : ∀ v' w', OwnR w' base v' (es ++ [.slice A L C]) → Below base w w' → wpList Try.prog ops Q rest (a.put o.dst v') w') : wpList Try.prog ops Q (o :: rest) a (w.alloc (.cells #[.slice A L C] 23)) := by
  obtain ⟨i0, hi, hz0, hz1, hz2⟩ := info_parts Try.info23
  refine wpList_append_own _ hgd s x 22 ho base 23 i0 (.slice none 0 0) 1 24 Try.underlying22 hi hz0 hz1 hz2 rfl (by decide) v _ _ hs (hown.alloc _) _ 1 1 [.slice A L C] hx rfl (fun j u hj => ?_) (fun u hu => ?_) (by unfold maxLen; omega) (by omega) (by simp; omega) (fun v' w' h1 h2 _ => ?_)
  · cases j with
    | zero =>
      simp at hj
      subst hj
      rw [add_plain]
      have hg : (w.alloc (.cells #[.slice A L C] 23)).heap[w.heap.size]? = some (.cells #[.slice A L C] 23 (0, 0)) := heap_alloc_new w _
      rw [cell_of_row _ w.heap.size (0 + 0) _ 23 (0, 0) hg]
      rfl
    | succ j => simp at hj
  · simp at hu
    subst hu
    rfl
  · refine h v' w' ?_ (((Below.refl base w).alloc hbase _).grown h2 (by simp; omega) (fun k hk => (World.ownsRow.lt hown k hk).1))
    unfold OwnR
    rw [List.length_append]
    exact h1

/-- 'make([][]byte, 0, n)' -/
theorem wpList_make_rows (w : World) {ops : Array Oper} {rest : List Oper} {o : Oper} {a : Act} {Q : Exit → Act → World → Prop} (hgd : o.guard = none) (l c : Operand) (ho : o.op = Op.makeSlice 22 l c)
    (base : Nat) (kl kc : IntKind) (C : Int) (hl : a.eval l = .int kl 0) (hc : a.eval c = .int kc C) (h0 : 0 ≤ C) (h1 : C ≤ 4194304) (hb : base ≤ w.heap.size)
    (h : ∀ v' w', OwnR w' base v' [] → Below base w w' → wpList Try.prog ops Q rest (a.put o.dst v') w') : wpList Try.prog ops Q (o :: rest) a w := by
  obtain ⟨i0, hi, hz0, hz1, hz2⟩ := info_parts Try.info23
  obtain ⟨n, rfl⟩ := Int.eq_ofNat_of_zero_le h0
  exact wpList_make_own w hgd l c 22 ho base 23 i0 (.slice none 0 0) 1 Try.underlying22 hi hz0 hz1 kl kc _ n hl hc rfl (by rw [hz2]; omega) (by unfold maxLen; omega) hb
    fun w' h2 h3 => h _ w' h2 ((Below.refl base w).grown h3 hb (fun k hk => by cases hk))

/-- The cells of the pairs (a name that the walk does not open). -/
def firsts (ps : List (Value × List Int)) : List Value := ps.map Prod.fst
theorem firsts_length (ps : List (Value × List Int)) : (firsts ps).length = ps.length := by simp [firsts]
theorem firsts_next {ps : List (Value × List Int)} {q : Nat} {v : Value} (h : ps[q]?.map Prod.fst = some v) : firsts (ps.take (q + 1)) = firsts (ps.take q) ++ [v] := by
  obtain ⟨p, hp, rfl⟩ := Option.map_eq_some_iff.1 h
  obtain ⟨hq, rfl⟩ := List.getElem?_eq_some_iff.1 hp
  unfold firsts
  rw [List.take_succ_eq_append_getElem hq, List.map_append]
  rfl

/-- The first i pairs, one more, the next s pairs. -/
def mid (ps : List (Value × List Int)) (i : Nat) (p : Value × List Int) (s : Nat) : List (Value × List Int) := ps.take i ++ p :: (ps.drop i).take s
theorem firsts_mid0 (ps : List (Value × List Int)) (i : Nat) (p : Value × List Int) : firsts (mid ps i p 0) = firsts (ps.take i) ++ [p.1] := by simp [firsts, mid]
theorem firsts_mid {ps : List (Value × List Int)} {i q : Nat} (p : Value × List Int) {v : Value} (hi : i ≤ q) (h : ps[q]?.map Prod.fst = some v) : firsts (mid ps i p (q + 1 - i)) = firsts (mid ps i p (q - i)) ++ [v] := by
  have h2 : (ps.drop i)[q - i]?.map Prod.fst = some v := by
    rw [List.getElem?_drop, show i + (q - i) = q by omega]
    exact h
  have h3 := firsts_next h2
  rw [show q + 1 - i = q - i + 1 by omega]
  simp only [firsts, mid, List.map_append, List.map_cons] at h3 ⊢
  rw [h3]
  simp
theorem mid_full (ps : List (Value × List Int)) (i t : Nat) (p : Value × List Int) (h : ps.length = t) : mid ps i p (t - i) = ps.take i ++ p :: ps.drop i := by
  unfold mid
  rw [List.take_of_length_le (l := ps.drop i) (by rw [List.length_drop, h]; omega)]
theorem mid_length (ps : List (Value × List Int)) (i t : Nat) (p : Value × List Int) (h : ps.length = t) (hi : i ≤ t) : (mid ps i p (t - i)).length = t + 1 := by
  rw [mid_full _ _ _ _ h]
  simp
  omega

/-- What the run has gathered in a slice of its own reads as a slice of slices. -/
theorem OwnR.rwp {w : World} {base : Nat} {v : Value} {ps : List (Value × List Int)} (h : OwnR w base v (firsts ps)) (hr : ∀ p ∈ ps, RowOf w p.1 p.2) :
    ∃ a cap, v = .slice a ps.length cap ∧ Rwp w a ps.length ps := by
  unfold firsts at h
  have hc := fun (g : Nat) (hg : v.ownBlock = some g) => World.ownsRow.cells h hg
  rcases h.2 with ⟨rfl, h0⟩ | ⟨g, cap, cur, hv, hb, hg, hn, hm, hs, ht⟩
  · simp at h0
    subst h0
    exact ⟨none, 0, rfl, rfl, (fun _ => rfl), (fun x hx => by cases hx), (fun p hp => by cases hp)⟩
  · rw [List.length_map] at hv
    subst hv
    refine ⟨_, cap, rfl, rfl, (fun hx => by cases hx), fun x hx r p hp => ?_, hr⟩
    cases hx
    refine hc g rfl r _ ?_
    simp [hp]

/-- The q-th element of a slice of slices, asked for in a later world. -/
theorem pair_at {w wz : World} {a : Option Addr} {n q : Nat} {ps : List (Value × List Int)} (hn : a = none → n = 0) (hc : ∀ x, a = some x → ∀ r p, ps[r]? = some p → w.cell? (x.add r) = some p.1) (hr : ∀ p ∈ ps, RowOf w p.1 p.2)
    (hl : ps.length = n) (hq : q < n) (hb : Below w.heap.size w wz) : ∃ x off A L C, a = some ⟨x, off, none⟩ ∧ wz.cell? ⟨x, off + q, none⟩ = some (.slice A L C) ∧ ps[q]?.map Prod.fst = some (.slice A L C) := by
  have hq2 : q < ps.length := by omega
  cases a with
  | none => have := hn rfl; omega
  | some y =>
    have hp : ps[q]? = some ps[q] := List.getElem?_eq_getElem hq2
    have h1 := hc y rfl q _ hp
    obtain ⟨A, L, C, hv, _, _⟩ := hr _ (List.getElem_mem hq2)
    obtain ⟨x, off, spot⟩ := y
    have hspot : spot = none := by
      have h := World.cell?_spot (hc _ rfl 0 _ (List.getElem?_eq_getElem (show 0 < ps.length by omega)))
      simpa [Addr.add] using h
    subst hspot
    rw [add_plain] at h1
    refine ⟨x, off, A, L, C, rfl, ?_, ?_⟩
    · rw [← hv, ← h1]
      exact hb.cell (World.block_lt_of_cell? w _ h1)
    · rw [hp, ← hv]
      rfl

theorem Bts.drop {w : World} {b off n : Nat} {zs : List Int} (h : Bts w (some ⟨b, off, none⟩) n zs) (m : Nat) (hm : m ≤ n) : Bts w (some ⟨b, off + m, none⟩) (n - m) (zs.drop m) := by
  have h1 := h.1
  refine ⟨by simp; omega, (fun ha => by cases ha), fun x hx i hi => ?_⟩
  cases hx
  rw [add_plain]
  have h2 := h.2.2 _ rfl (m + i) (by omega)
  rw [add_plain] at h2
  rw [show off + m + i = off + (m + i) by omega, h2]
  simp

/-- The length behind a name. -/
theorem Own.named {w : World} {base : Nat} {v : Value} {zs : List Int} (h : Own w base v zs) : ∃ a n cap, v = .slice a n cap ∧ n = zs.length ∧ Bts w a n zs := by
  obtain ⟨a, cap, hv, _, _, _, hb⟩ := h.bts
  exact ⟨a, _, cap, hv, rfl, hb⟩

theorem Bts.none_left (w : World) (a : Option Addr) : Bts w a 0 [] := ⟨rfl, fun _ => rfl, fun _ _ i hi => by omega⟩

end Go.Proofs.Qxb6628526a
