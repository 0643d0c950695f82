/-
  THE LAWS OF 'out = append(out, c)' AND 'make([]byte, 0, n)' ON BYTES OF THE RUN's OWN; 'string(out)'.
-/
import Derived.Test.Qxb6628612aDoorMarker
import Derived.Laws.IdiomStrings
import Derived.ProofKit
namespace Go.Proofs.Qxb6628612aDoor
open Go.RowKit Go.WideShapes Plain

theorem Tryd.info5 : (Tryd.prog.info? 5).map (fun i => (i.zero, i.size, i.bytes)) = some (some (.int .u8 0), 1, 1) := by kernel_rfl

/-- The slice value v is the run's own and holds the bytes l. -/
def OwnB (w : World) (base : Nat) (v : Value) (l : List UInt8) : Prop := w.ownsRow base 5 1 v l.length (Lib.byteCells l)

theorem OwnB.lt {w : World} {base : Nat} {v : Value} {l : List UInt8} (h : OwnB w base v l) : ∀ k, v.ownBlock = some k → base ≤ k := fun k hk => (World.ownsRow.lt h k hk).1

/-- 'append(out, c)': the one byte lies in the block that has just been laid. -/
theorem wpList_append_byte (w : World) {ops : Array Oper} {rest : List Oper} {o : Oper} {a : Act} {Q : Exit → Act → World → Prop} (hgd : o.guard = none) (s x : Operand)
    (ho : o.op = .call { callee := .builtin .append, args := #[s, x], argTypes := #[39, 39] })
    (base : Nat) (v : Value) (l : List UInt8) (c : UInt8) (cv : Int) (hcv : cv = (c.toNat : Int)) (hs : a.eval s = v) (hown : OwnB w base v l) (hx : a.eval x = .slice (some ⟨w.heap.size, 0, none⟩) 1 1) (hlen : l.length ≤ 70368744177664) (hbase : base ≤ w.heap.size)
    (h : ∀ v' w', OwnB w' base v' (l ++ [c]) → Below base w w' → wpList Tryd.prog ops Q rest (a.put o.dst v') w') : wpList Tryd.prog ops Q (o :: rest) a (w.alloc (.cells #[.int .u8 cv] 5)) := by
  obtain ⟨i0, hi, hz0, hz1, hz2⟩ := info_parts Tryd.info5
  subst hcv
  refine wpList_append_own _ hgd s x 39 ho base 5 i0 (.int .u8 0) 1 1 Tryd.underlying39 hi hz0 hz1 hz2 rfl (by decide) v _ _ hs (World.ownsRow.alloc hown _) _ 1 1 [.int .u8 c.toNat] hx rfl (fun j u hj => ?_) (fun u hu => ?_) (by unfold maxLen; omega) (by omega) (by simp; omega) (fun v' w' h1 h2 _ => ?_)
  · cases j with
    | zero =>
      simp at hj
      subst hj
      rw [add_plain]
      have hg : (w.alloc (.cells #[.int .u8 (c.toNat : Int)] 5)).heap[w.heap.size]? = some (.cells #[.int .u8 (c.toNat : Int)] 5 (0, 0)) := heap_alloc_new w _
      rw [cell_of_row _ w.heap.size (0 + 0) _ 5 (0, 0) hg]
      rfl
    | succ j => simp at hj
  · simp at hu
    subst hu
    rfl
  · refine h v' w' ?_ (((Below.refl base w).alloc hbase _).grown h2 (by simp; omega) (OwnB.lt hown))
    unfold OwnB
    rw [List.length_append, ← cells_snoc]
    exact h1

/-- 'make([]byte, 0, n)' -/
theorem wpList_make_bytes (w : World) {ops : Array Oper} {rest : List Oper} {o : Oper} {a : Act} {Q : Exit → Act → World → Prop} (hgd : o.guard = none) (l c : Operand) (ho : o.op = Op.makeSlice 39 l c)
    (base : Nat) (kl kc : IntKind) (C : Int) (hl : a.eval l = .int kl 0) (hc : a.eval c = .int kc C) (h0 : 0 ≤ C) (h1 : C ≤ 281474976710656) (hb : base ≤ w.heap.size)
    (h : ∀ v' w', OwnB w' base v' [] → Below base w w' → wpList Tryd.prog ops Q rest (a.put o.dst v') w') : wpList Tryd.prog ops Q (o :: rest) a w := by
  obtain ⟨i0, hi, hz0, hz1, hz2⟩ := info_parts Tryd.info5
  obtain ⟨n, rfl⟩ := Int.eq_ofNat_of_zero_le h0
  exact wpList_make_own w hgd l c 39 ho base 5 i0 (.int .u8 0) 1 Tryd.underlying39 hi hz0 hz1 kl kc _ n hl hc rfl (by rw [hz2]; omega) (by unfold maxLen; omega) hb
    fun w' h2 h3 => h _ w' h2 ((Below.refl base w).grown h3 hb (fun k hk => by cases hk))

/-- 'string(out)' -/
theorem OwnB.string {w : World} {base : Nat} {v : Value} {l : List UInt8} (h : OwnB w base v l) : (convert 39 9 v).run Tryd.prog w = .ok (.string ⟨l.toArray⟩) w := by
  have hc := fun (g : Nat) (hg : v.ownBlock = some g) => World.ownsRow.cells h hg
  rcases h.2 with ⟨rfl, h0⟩ | ⟨g, cap, cur, rfl, _⟩
  · have : l = [] := List.eq_nil_of_length_eq_zero h0
    subst this
    rw [run_convert_bytes_string w 39 9 5 none 0 0 Tryd.underlying39 Tryd.underlying5 Tryd.underlying9]
    simp [Conv.bytesToString]
    rfl
  · exact run_convert_bytes_back w 39 9 5 ⟨g, 0, none⟩ cap l Tryd.underlying39 Tryd.underlying5 Tryd.underlying9 (fun j hj => hc g rfl j _ (by simp [Lib.byteCells, hj]))

end Go.Proofs.Qxb6628612aDoor
