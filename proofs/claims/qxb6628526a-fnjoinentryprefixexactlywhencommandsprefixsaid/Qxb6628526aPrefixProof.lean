/-
  'Rows.FnJoinEntryPrefixExactlyWhenCommandsPrefixSaid', PROVED. The frame is the guide's template (a law over slices), the slices of slices opened by 'open_int_rows'.
-/
import Derived.Test.Qxb6628526aPrefixWalk
import Derived.ProofKit
import Derived.ChangeOld
import Derived.Deep.Matrix
namespace Go.Proofs.Qxb6628526a
open Go.ChangeShapes Go.WideShapes Go.ChangeAt Go.RowKit Go.Deep

theorem own : ownKnob Try.prog.godebug = none := by kernel_rfl
theorem laidOut : laidOutB Try.prog = true := by kernel_rfl
theorem Try.cells23 : Try.prog.cellsOf 23 = 1 := by kernel_rfl
theorem Try.cells5 : Try.prog.cellsOf 5 = 1 := by kernel_rfl

/-- A slice of slices of bytes that came in, opened for the walk. -/
theorem open_rws {H : Type} {enc : TypeId × Value → H} {W : World} {a : Option Addr} {len cap : Nat} {d : DataW H} {p : List MemPlace} (h : DataW.Trod enc Try.prog W 0 (fun _ => true) true 22 (.slice a len cap) d p) :
    ∃ cs, Rws W a len cs := by
  obtain ⟨fuel, hf⟩ := h
  rcases open_int_rows Try.underlying22 Try.underlying23 Try.underlying5 Try.cells23 Try.cells5 hf with ⟨hcs, _⟩ | ⟨x, l, c, A, L, C, Z, hcs, _, hl, hm, _, hrow⟩
  · simp [Value.cells] at hcs
    obtain ⟨rfl, rfl, rfl⟩ := hcs
    exact ⟨[], rfl, fun _ => rfl, fun _ hx => by cases hx⟩
  · simp [Value.cells] at hcs
    obtain ⟨rfl, rfl, rfl⟩ := hcs
    refine ⟨(List.range len).map fun r => (Z r).take (L r), by simp, (fun hx => by cases hx), fun x' hx r hr => ?_⟩
    cases hx
    obtain ⟨hc, hL, _, hZ, _, hn, hb⟩ := hrow r (by omega)
    have e : ((List.range len).map fun r => (Z r).take (L r)).getD r [] = (Z r).take (L r) := by simp [hr]
    rw [e]
    refine ⟨A r, L r, C r, hc, hn, by simp; omega, (fun hx => by have := hn hx; omega), fun y hy i hi => ?_⟩
    rw [(hb y hy).2 i (by omega)]
    simp [hi]

set_option maxRecDepth 100000 in
theorem prefix_lifted (os : Os) (started : os.Started) (H : Type) (enc : TypeId × Value → H) :
    ReturnsInHanded {} Try.checked os 4 .any (Rows.fnJoinEntryPrefixExactlyWhenCommandsPrefixSpec.pre6 enc Try.prog Try.f4 Rows.fnJoinEntryPrefixExactlyWhenCommandsPrefixRow.domain false) (Rows.fnJoinEntryPrefixExactlyWhenCommandsPrefixSpec.post enc Try.prog Try.f4 false true false false) := by
  refine returnsInHanded_of_change (C := Try.checked) own started (by kernel_rfl) Try.func4
    (ChangeSpec.witness6 (enc := enc) (C := Try.checked) false ⟨#[], #[.slice none 0 0, .slice none 0 0], []⟩ 8 (by kernel_rfl) (by kernel_rfl) (by kernel_rfl) (by kernel_rfl)) ?_
  intro W base args ds gs before hval0 hW hcnd _
  have hval : ∀ (j : Nat) t v, Try.f4.params[j]? = some t → args[j]? = some v → Value.okWide Try.prog W .any base t v := hval0
  have hW' := hW
  obtain ⟨p, q, hA0, hV, rfl, hfz, hnd⟩ := hW
  have hA : DataW.TrodAll enc Try.prog W 0 (fun _ => true) true Try.f4.params.toList args.toList ds p := hA0
  rw [Try.params4] at hA hval
  obtain ⟨v0, vs0, d0, ds0, p0, q0, hargs, rfl, rfl, h0, r0⟩ := trodAll_cons hA
  obtain ⟨v1, vs1, d1, ds1, p1, q1, rfl, rfl, rfl, h1, r1⟩ := trodAll_cons r0
  obtain ⟨rfl, rfl, rfl⟩ := trodAll_nil r1
  obtain rfl : args = #[v0, v1] := by cases args; simp_all
  obtain ⟨rfl, rfl⟩ := trodVars_none hV
  obtain ⟨a0, len0, cap0, rfl⟩ := okWide_slice Try.underlying22 (hval 0 22 v0 rfl rfl)
  obtain ⟨a1, len1, cap1, rfl⟩ := okWide_slice Try.underlying22 (hval 1 22 v1 rfl rfl)
  have k0 := h0
  have k1 := h1
  have lt0 : ∀ x ∈ p0, x.block < W.heap.size := by obtain ⟨m, hm⟩ := k0; exact DataW.trod_lt m _ _ _ hm
  have lt1 : ∀ x ∈ p1, x.block < W.heap.size := by obtain ⟨m, hm⟩ := k1; exact DataW.trod_lt m _ _ _ hm
  obtain ⟨us, w0⟩ := open_rws h0
  obtain ⟨vs, w1⟩ := open_rws h1
  clear hA0 hval0
  refine (law_walk a0 a1 len0 len1 cap0 cap1 us vs W w0 w1).mono fun e W' ⟨he, bel⟩ => ?_
  subst he
  exact ⟨_, rfl, _, _, _, [], _, [], hW', trodAll_mk1 (shut_bool Try.underlying4 _), (trodAll_mk2 (Below.trod laidOut (by kernel_rfl) (of_decide_eq_true (by kernel_rfl)) k0 bel lt0) (Below.trod laidOut (by kernel_rfl) (of_decide_eq_true (by kernel_rfl)) k1 bel lt1)), rfl, bel.frame _, fun h => by cases h⟩

theorem prefix_proved : Rows.FnJoinEntryPrefixExactlyWhenCommandsPrefixSaid :=
  OpenClaim.holds_of_wide 4 Try.f4 rfl rfl rfl rfl rfl rfl rfl ⟨rfl, rfl, rfl, rfl, rfl⟩ rfl rfl rfl rfl rfl (by kernel_rfl) Try.func4 (by kernel_rfl)
    (of_decide_eq_true (by kernel_rfl)) (by unfold Func.isWrapper; first | (rw [if_pos (by decide +kernel)]; kernel_rfl) | (rw [if_neg (by decide +kernel)]; exact ⟨rfl, rfl⟩))
    (fun os started H enc _ => prefix_lifted os started H enc)

end Go.Proofs.Qxb6628526a
