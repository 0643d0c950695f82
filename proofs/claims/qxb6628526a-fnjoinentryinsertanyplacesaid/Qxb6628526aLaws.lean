/-
  THE LAW OF 'b = append(b, src...)' ON BYTES, b THE RUN's OWN, src WHATEVER (a literal's new block, a slice that came in, nil), in one form.
-/
import Derived.Test.Qxb6628526aEqual
import Derived.WalkKit
import Derived.WalkSpells
import Derived.Laws.AppendOwnNone
namespace Go.Proofs.Qxb6628526a
open Go.RowKit Go.WideShapes

theorem Try.info5 : (Try.prog.info? 5).map (fun i => (i.zero, i.size, i.bytes)) = some (some (.int .u8 0), 1, 1) := by kernel_rfl

/-- The slice value v is the run's own and holds the bytes zs. -/
def Own (w : World) (base : Nat) (v : Value) (zs : List Int) : Prop := w.ownsRow base 5 1 v zs.length (zs.map (Value.int .u8))

theorem Own.alloc {w : World} {base : Nat} {v : Value} {zs : List Int} (h : Own w base v zs) (o : Obj) : Own (w.alloc o) base v zs := World.ownsRow.alloc h o

theorem Own.lt {w : World} {base : Nat} {v : Value} {zs : List Int} (h : Own w base v zs) : ∀ k, v.ownBlock = some k → base ≤ k := fun k hk => (World.ownsRow.lt h k hk).1

/-- What is the run's own reads as a slice of bytes. -/
theorem Own.bts {w : World} {base : Nat} {v : Value} {zs : List Int} (h : Own w base v zs) : ∃ a cap, v = .slice a zs.length cap ∧ (a = none → cap = 0) ∧ zs.length ≤ cap ∧ cap ≤ maxLen ∧ Bts w a zs.length zs := by
  have hc := fun (g : Nat) (hg : v.ownBlock = some g) => World.ownsRow.cells h hg
  rcases h.2 with ⟨rfl, h0⟩ | ⟨g, cap, cur, rfl, hb, hg, hn, hm, hs, ht⟩
  · refine ⟨none, 0, by rw [h0], fun _ => rfl, by omega, by simp, rfl, fun _ => h0, fun x hx => by cases hx⟩
  · refine ⟨_, cap, rfl, (fun hx => by cases hx), hn, hm, rfl, (fun hx => by cases hx), fun x hx i hi => ?_⟩
    cases hx
    refine hc g rfl i _ ?_
    simp [hi]

/-- One block of bytes that has just been laid, as a source. -/
theorem bts_new (w : World) (vs : Array Value) (zs : List Int) (n : Nat) (hv : vs.toList = zs.map (Value.int .u8)) (hn : zs.length = n) : Bts (w.alloc (.cells vs 5)) (some ⟨w.heap.size, 0, none⟩) n zs := by
  refine ⟨hn, fun h => (by cases h), fun x hx i hi => ?_⟩
  cases hx
  rw [add_plain]
  have hg : (w.alloc (.cells vs 5)).heap[w.heap.size]? = some (.cells vs 5 (0, 0)) := heap_alloc_new w _
  rw [cell_of_row _ w.heap.size (0 + i) vs 5 (0, 0) hg]
  have e : vs[i]? = vs.toList[i]? := by simp
  rw [Nat.zero_add, e, hv]
  have hi2 : i < zs.length := by omega
  simp [hi2]

theorem wpList_append_bytes (w : World) {ops : Array Oper} {rest : List Oper} {o : Oper} {a : Act} {Q : Exit → Act → World → Prop} (hgd : o.guard = none) (s x : Operand)
    (ho : o.op = .call { callee := .builtin .append, args := #[s, x], argTypes := #[23, 23] })
    (base : Nat) (v : Value) (zs : List Int) (hs : a.eval s = v) (hown : Own w base v zs)
    (ad : Option Addr) (m c : Nat) (ys : List Int) (hx : a.eval x = .slice ad m c) (hsrc : Bts w ad m ys) (hc : ad = none → c = 0) (hlen : zs.length + ys.length ≤ 70368744177664) (hbase : base ≤ w.heap.size)
    (h : ∀ v' w', Own w' base v' (zs ++ ys) → Below base w w' → wpList Try.prog ops Q rest (a.put o.dst v') w') : wpList Try.prog ops Q (o :: rest) a w := by
  obtain ⟨i0, hi, hz0, hz1, hz2⟩ := info_parts Try.info5
  obtain ⟨hm, hnone, hcell⟩ := hsrc
  cases ad with
  | none =>
    have h0 := hnone rfl
    have hc0 := hc rfl
    subst h0; subst hc0
    have hy : ys = [] := List.eq_nil_of_length_eq_zero hm
    subst hy
    exact wpList_append_own_none hgd s x 23 ho base 5 i0 1 Try.underlying23 hi v _ _ hs hown hx (h v w (by simpa using hown) (Below.refl _ _))
  | some p =>
    refine wpList_append_own w hgd s x 23 ho base 5 i0 (.int .u8 0) 1 1 Try.underlying23 hi hz0 hz1 hz2 rfl (by decide) v _ _ hs hown p m c (ys.map (Value.int .u8)) hx (by simp [hm]) (fun j u hj => ?_) (ints_oneCell _ _) (by unfold maxLen; omega) (by omega) hbase (fun v' w' h1 h2 _ => ?_)
    · have hj2 : j < ys.length := by
        have := (List.getElem?_eq_some_iff.1 hj).1
        simpa using this
      rw [hcell p rfl j (by omega)]
      simp [hj2] at hj ⊢
      exact hj
    · refine h v' w' ?_ ((Below.refl base w).grown h2 hbase (Own.lt hown))
      unfold Own
      rw [List.map_append, List.length_append, hm]
      exact h1

/-- 'make([]byte, 0, n)' -/
theorem wpList_make_bytes (w : World) {ops : Array Oper} {rest : List Oper} {o : Oper} {a : Act} {Q : Exit → Act → World → Prop} (hgd : o.guard = none) (l c : Operand) (ho : o.op = Op.makeSlice 23 l c)
    (base : Nat) (kl kc : IntKind) (C : Int) (hl : a.eval l = .int kl 0) (hc : a.eval c = .int kc C) (h0 : 0 ≤ C) (h1 : C ≤ 281474976710656) (hb : base ≤ w.heap.size)
    (h : ∀ v' w', Own w' base v' [] → Below base w w' → wpList Try.prog ops Q rest (a.put o.dst v') w') : wpList Try.prog ops Q (o :: rest) a w := by
  obtain ⟨i0, hi, hz0, hz1, hz2⟩ := info_parts Try.info5
  obtain ⟨n, rfl⟩ := Int.eq_ofNat_of_zero_le h0
  exact wpList_make_own w hgd l c 23 ho base 5 i0 (.int .u8 0) 1 Try.underlying23 hi hz0 hz1 kl kc _ n hl hc rfl (by rw [hz2]; omega) (by unfold maxLen; omega) hb
    fun w' h2 h3 => h _ w' h2 ((Below.refl base w).grown h3 hb (fun k hk => by cases hk))

end Go.Proofs.Qxb6628526a
