/-
  THE SHELF's CONTRACTS OF strconv.FormatInt (base 10) AND OF strings.Builder's Grow, WriteByte, WriteString, String AT THIS PROGRAM, as the kit's lay-shelf.mjs and lay-plain.mjs write them. WriteByte and WriteString are laid by hand in the same form: the tool passes over them, for copyCheck's panic, which alone names two of the types, is refused by the loader.
-/
import Derived.Shelf.Strings.Builder1
import Derived.Shelf.Strings.Builder2
import Derived.Shelf.LaysM
import Derived.Shelf.Strconv.Itoa4
import Derived.Test.Qxb6628612aDoorRows
namespace Go.Proofs.Qxb6628612aDoor
/-- The name of strconv's table of powers of ten, taken off the row. -/
def tabName : String := Rows.fnStringInjectiveRow.named.headD default
end Go.Proofs.Qxb6628612aDoor
namespace Go.Proofs
open Go.Shelf
open Go.Proofs.Qxb6628612aDoor (tabName)
def Tryd.lays169_ren : Go.Shelf.Ren := ⟨fun | 169 => 19 | n => n, fun | 70 => 38 | 9 => 9 | 0 => 0 | 72 => 41 | 37 => 39 | 127 => 49 | 3 => 3 | 5 => 5 | n => n, fun | n => n⟩
theorem Tryd.lays169 : Go.Proofs.Lays.n169 Tryd.prog Tryd.lays169_ren := {
  mixed := by kernel_rfl
  f169 := Tryd.func19.trans (congrArg some (by kernel_rfl))
  t0 := Tryd.underlying0
  a0 := Tryd.isAgg0
  z0 := Tryd.sizeOf0
  v0 := Tryd.zeroValue0
  t3 := Tryd.underlying3
  a3 := Tryd.isAgg3
  z3 := Tryd.sizeOf3
  v3 := Tryd.zeroValue3
  t9 := Tryd.underlying9
  a9 := Tryd.isAgg9
  z9 := Tryd.sizeOf9
  v9 := Tryd.zeroValue9
  t37 := Tryd.underlying39
  a37 := Tryd.isAgg39
  z37 := Tryd.sizeOf39
  v37 := Tryd.zeroValue39
  t70 := Tryd.underlying38
  a70 := Tryd.isAgg38
  z70 := Tryd.sizeOf38
  v70 := Tryd.zeroValue38
  t72 := Tryd.underlying41
  a72 := Tryd.isAgg41
  z72 := Tryd.sizeOf41
  v72 := Tryd.zeroValue41
  t127 := Tryd.underlying49
  a127 := Tryd.isAgg49
  z127 := Tryd.sizeOf49
  v127 := Tryd.zeroValue49 }
theorem Tryd.Builder_Extra_169 : Builder.Extra Tryd.prog Tryd.lays169_ren := {
  sizeBuilder := by kernel_rfl
  liesBuilder := by kernel_rfl
  t5 := Tryd.underlying5
  a5 := Tryd.isAgg5
  z5 := Tryd.sizeOf5
  v5 := Tryd.zeroValue5
  infoByte := by kernel_rfl
  cellsByte := by kernel_rfl
  sizeByte := by kernel_rfl
  neB5 := by decide }
open Go.RowKit in
theorem Tryd.Builder_String_any (B b : Nat) (l : List UInt8) (w : World) (h : Lib.IsBuilder 41 5 B b (Lib.byteCells l) w) (hBw : B ≤ w.heap.size) :
    Calls Tryd.prog 19 #[.pointer (some ⟨b, 0, none⟩)] w fun e w' => e = .returned (.string ⟨l.toArray⟩) ∧ Below B w w' := Any.Builder_String_any Tryd.lays169 Tryd.Builder_Extra_169 B b l w h hBw
def Tryd.lays165_ren : Go.Shelf.Ren := ⟨fun | 165 => 16 | 240 => 21 | 241 => 22 | 276 => 27 | 277 => 28 | n => n, fun | 70 => 38 | 3 => 3 | 0 => 0 | 4 => 4 | 9 => 9 | 20 => 20 | 72 => 41 | 37 => 39 | 164 => 56 | 5 => 5 | n => n, fun | n => n⟩
theorem Tryd.lays165 : Go.Proofs.Lays.n165 Tryd.prog Tryd.lays165_ren := {
  mixed := by kernel_rfl
  f165 := Tryd.func16.trans (congrArg some (by kernel_rfl))
  f240 := Tryd.func21.trans (congrArg some (by kernel_rfl))
  f241 := Tryd.func22.trans (congrArg some (by kernel_rfl))
  f276 := Tryd.func27.trans (congrArg some (by kernel_rfl))
  f277 := Tryd.func28.trans (congrArg some (by kernel_rfl))
  t0 := Tryd.underlying0
  a0 := Tryd.isAgg0
  z0 := Tryd.sizeOf0
  v0 := Tryd.zeroValue0
  t3 := Tryd.underlying3
  a3 := Tryd.isAgg3
  z3 := Tryd.sizeOf3
  v3 := Tryd.zeroValue3
  t4 := Tryd.underlying4
  a4 := Tryd.isAgg4
  z4 := Tryd.sizeOf4
  v4 := Tryd.zeroValue4
  t9 := Tryd.underlying9
  a9 := Tryd.isAgg9
  z9 := Tryd.sizeOf9
  v9 := Tryd.zeroValue9
  t20 := Tryd.underlying20
  a20 := Tryd.isAgg20
  z20 := Tryd.sizeOf20
  v20 := Tryd.zeroValue20
  t37 := Tryd.underlying39
  a37 := Tryd.isAgg39
  z37 := Tryd.sizeOf39
  v37 := Tryd.zeroValue39
  t70 := Tryd.underlying38
  a70 := Tryd.isAgg38
  z70 := Tryd.sizeOf38
  v70 := Tryd.zeroValue38
  t72 := Tryd.underlying41
  a72 := Tryd.isAgg41
  z72 := Tryd.sizeOf41
  v72 := Tryd.zeroValue41
  t164 := Tryd.underlying56
  a164 := Tryd.isAgg56
  z164 := Tryd.sizeOf56
  v164 := Tryd.zeroValue56 }
theorem Tryd.Builder_Extra_165 : Builder.Extra Tryd.prog Tryd.lays165_ren := {
  sizeBuilder := by kernel_rfl
  liesBuilder := by kernel_rfl
  t5 := Tryd.underlying5
  a5 := Tryd.isAgg5
  z5 := Tryd.sizeOf5
  v5 := Tryd.zeroValue5
  infoByte := by kernel_rfl
  cellsByte := by kernel_rfl
  sizeByte := by kernel_rfl
  neB5 := by decide }
open Go.RowKit in
theorem Tryd.Builder_Grow_fresh (B b n : Nat) (w : World) (hB : B ≤ b) (hbk : w.heap[b]? = some (.cells #[.pointer none, .slice none 0 0] 41 (0, 0))) (hBw : B ≤ w.heap.size) (hn : n ≤ 281474976710656) :
    Calls Tryd.prog 16 #[.pointer (some ⟨b, 0, none⟩), .int .i64 n] w fun e w' => e = .returned (.tuple #[]) ∧ (Lib.BuilderAt 41 5 B b (.pointer (some ⟨b, 0, none⟩)) [] w' ∧ Below B w w') := Any.Builder_Grow_fresh Tryd.lays165 Tryd.Builder_Extra_165 B b n w hB hbk hBw hn
def Tryd.laysM173_ren : Go.Shelf.Ren := ⟨fun | 173 => 15 | 246 => 20 | 283 => 23 | 284 => 24 | 285 => 25 | 286 => 26 | 129 => 30 | 317 => 29 | 318 => 31 | 319 => 32 | 320 => 33 | 337 => 34 | 338 => 35 | n => n, fun | 2 => 2 | 3 => 3 | 9 => 9 | 4 => 4 | 171 => 51 | 0 => 0 | 53 => 48 | 37 => 39 | 5 => 5 | 173 => 54 | 212 => 61 | 51 => 62 | 20 => 20 | 213 => 63 | 46 => 65 | 232 => 68 | 233 => 69 | n => n, fun | 17 => 0 | 18 => 2 | 19 => 3 | n => n⟩
theorem Tryd.laysM173 : Go.Proofs.LaysM.n173 Tryd.prog Tryd.laysM173_ren := {
  mixed := by kernel_rfl
  f129 := Tryd.func30.trans (congrArg some (by kernel_rfl))
  f173 := Tryd.func15.trans (congrArg some (by kernel_rfl))
  f246 := Tryd.func20.trans (congrArg some (by kernel_rfl))
  f283 := Tryd.func23.trans (congrArg some (by kernel_rfl))
  f284 := Tryd.func24.trans (congrArg some (by kernel_rfl))
  f285 := Tryd.func25.trans (congrArg some (by kernel_rfl))
  f286 := Tryd.func26.trans (congrArg some (by kernel_rfl))
  f317 := Tryd.func29.trans (congrArg some (by kernel_rfl))
  f318 := Tryd.func31.trans (congrArg some (by kernel_rfl))
  f319 := Tryd.func32.trans (congrArg some (by kernel_rfl))
  f320 := Tryd.func33.trans (congrArg some (by kernel_rfl))
  f337 := Tryd.func34.trans (congrArg some (by kernel_rfl))
  f338 := Tryd.func35.trans (congrArg some (by kernel_rfl))
  t0 := Tryd.underlying0
  a0 := Tryd.isAgg0
  z0 := Tryd.sizeOf0
  v0 := Tryd.zeroValue0
  t2 := Tryd.underlying2
  a2 := Tryd.isAgg2
  z2 := Tryd.sizeOf2
  v2 := Tryd.zeroValue2
  t3 := Tryd.underlying3
  a3 := Tryd.isAgg3
  z3 := Tryd.sizeOf3
  v3 := Tryd.zeroValue3
  t4 := Tryd.underlying4
  a4 := Tryd.isAgg4
  z4 := Tryd.sizeOf4
  v4 := Tryd.zeroValue4
  t5 := Tryd.underlying5
  a5 := Tryd.isAgg5
  z5 := Tryd.sizeOf5
  v5 := Tryd.zeroValue5
  t9 := Tryd.underlying9
  a9 := Tryd.isAgg9
  z9 := Tryd.sizeOf9
  v9 := Tryd.zeroValue9
  t20 := Tryd.underlying20
  a20 := Tryd.isAgg20
  z20 := Tryd.sizeOf20
  v20 := Tryd.zeroValue20
  t37 := Tryd.underlying39
  a37 := Tryd.isAgg39
  z37 := Tryd.sizeOf39
  v37 := Tryd.zeroValue39
  t46 := Tryd.underlying65
  a46 := Tryd.isAgg65
  z46 := Tryd.sizeOf65
  v46 := Tryd.zeroValue65
  t51 := Tryd.underlying62
  a51 := Tryd.isAgg62
  z51 := Tryd.sizeOf62
  v51 := Tryd.zeroValue62
  t53 := Tryd.underlying48
  a53 := Tryd.isAgg48
  z53 := Tryd.sizeOf48
  v53 := Tryd.zeroValue48
  t171 := Tryd.underlying51
  a171 := Tryd.isAgg51
  z171 := Tryd.sizeOf51
  v171 := Tryd.zeroValue51
  t173 := Tryd.underlying54
  a173 := Tryd.isAgg54
  z173 := Tryd.sizeOf54
  v173 := Tryd.zeroValue54
  t212 := Tryd.underlying61
  a212 := Tryd.isAgg61
  z212 := Tryd.sizeOf61
  v212 := Tryd.zeroValue61
  t213 := Tryd.underlying63
  a213 := Tryd.isAgg63
  z213 := Tryd.sizeOf63
  t232 := Tryd.underlying68
  a232 := Tryd.isAgg68
  z232 := Tryd.sizeOf68
  v232 := Tryd.zeroValue68
  t233 := Tryd.underlying69
  a233 := Tryd.isAgg69
  z233 := Tryd.sizeOf69
  v233 := Tryd.zeroValue69
  g17 := by kernel_rfl
  g18 := by kernel_rfl
  g19 := by kernel_rfl
  i0 := by kernel_rfl
  i2 := by kernel_rfl
  i3 := by kernel_rfl
  i4 := by kernel_rfl
  i5 := by kernel_rfl
  i9 := by kernel_rfl
  i20 := by kernel_rfl
  i37 := by kernel_rfl
  i46 := by kernel_rfl
  i51 := by kernel_rfl
  i53 := by kernel_rfl
  i171 := by kernel_rfl
  i173 := by kernel_rfl
  i212 := by kernel_rfl
  i232 := by kernel_rfl
  i233 := by kernel_rfl
  m17 := by kernel_rfl
  m18 := by kernel_rfl
  m19 := by kernel_rfl }
open Go.RowKit Go.Sort Go.Lib in
theorem Tryd.strconv_FormatInt_10 (n : Int) (h0 : -9223372036854775808 ≤ n) (h1 : n ≤ 9223372036854775807) (w : World) (htab : Lib.TabIs Tryd.prog w tabName .u64 Lib.pow10Tab) :
    Calls Tryd.prog 15 #[.int .i64 n, .int .i64 10] w fun e w' => e = .returned (.string ⟨(Lib.itoa n).toArray⟩) ∧ ∃ k os, w' = grow (w.drewN k) os := Any.strconv_FormatInt_10 Tryd.laysM173 n h0 h1 w htab
def Tryd.lays167_ren : Go.Shelf.Ren := ⟨fun | 167 => 17 | 240 => 21 | 276 => 27 | n => n, fun | 0 => 0 | 3 => 3 | 4 => 4 | 5 => 5 | 9 => 9 | 20 => 20 | 37 => 39 | 70 => 38 | 72 => 41 | 75 => 44 | 80 => 27 | 164 => 56 | n => n, fun | n => n⟩
theorem Tryd.lays167 : Go.Proofs.Lays.n167 Tryd.prog Tryd.lays167_ren := {
  mixed := by kernel_rfl
  f167 := Tryd.func17.trans (congrArg some (by kernel_rfl))
  f240 := Tryd.func21.trans (congrArg some (by kernel_rfl))
  f276 := Tryd.func27.trans (congrArg some (by kernel_rfl))
  t0 := Tryd.underlying0
  a0 := Tryd.isAgg0
  z0 := Tryd.sizeOf0
  v0 := Tryd.zeroValue0
  t4 := Tryd.underlying4
  a4 := Tryd.isAgg4
  z4 := Tryd.sizeOf4
  v4 := Tryd.zeroValue4
  t5 := Tryd.underlying5
  a5 := Tryd.isAgg5
  z5 := Tryd.sizeOf5
  v5 := Tryd.zeroValue5
  t9 := Tryd.underlying9
  a9 := Tryd.isAgg9
  z9 := Tryd.sizeOf9
  v9 := Tryd.zeroValue9
  t20 := Tryd.underlying20
  a20 := Tryd.isAgg20
  z20 := Tryd.sizeOf20
  v20 := Tryd.zeroValue20
  t37 := Tryd.underlying39
  a37 := Tryd.isAgg39
  z37 := Tryd.sizeOf39
  v37 := Tryd.zeroValue39
  t70 := Tryd.underlying38
  a70 := Tryd.isAgg38
  z70 := Tryd.sizeOf38
  v70 := Tryd.zeroValue38
  t72 := Tryd.underlying41
  a72 := Tryd.isAgg41
  z72 := Tryd.sizeOf41
  v72 := Tryd.zeroValue41
  t75 := Tryd.underlying44
  a75 := Tryd.isAgg44
  z75 := Tryd.sizeOf44
  v75 := Tryd.zeroValue44
  t164 := Tryd.underlying56
  a164 := Tryd.isAgg56
  z164 := Tryd.sizeOf56
  v164 := Tryd.zeroValue56 }
theorem Tryd.Builder_Extra_167 : Builder.Extra Tryd.prog Tryd.lays167_ren := {
  sizeBuilder := by kernel_rfl
  liesBuilder := by kernel_rfl
  t5 := Tryd.underlying5
  a5 := Tryd.isAgg5
  z5 := Tryd.sizeOf5
  v5 := Tryd.zeroValue5
  infoByte := by kernel_rfl
  cellsByte := by kernel_rfl
  sizeByte := by kernel_rfl
  neB5 := by decide }
def Tryd.lays166_ren : Go.Shelf.Ren := ⟨fun | 166 => 18 | 240 => 21 | 276 => 27 | n => n, fun | 0 => 0 | 3 => 3 | 4 => 4 | 5 => 5 | 9 => 9 | 20 => 20 | 37 => 39 | 70 => 38 | 72 => 41 | 75 => 44 | 80 => 27 | 164 => 56 | n => n, fun | n => n⟩
theorem Tryd.lays166 : Go.Proofs.Lays.n166 Tryd.prog Tryd.lays166_ren := {
  mixed := by kernel_rfl
  f166 := Tryd.func18.trans (congrArg some (by kernel_rfl))
  f240 := Tryd.func21.trans (congrArg some (by kernel_rfl))
  f276 := Tryd.func27.trans (congrArg some (by kernel_rfl))
  t0 := Tryd.underlying0
  a0 := Tryd.isAgg0
  z0 := Tryd.sizeOf0
  v0 := Tryd.zeroValue0
  t3 := Tryd.underlying3
  a3 := Tryd.isAgg3
  z3 := Tryd.sizeOf3
  v3 := Tryd.zeroValue3
  t4 := Tryd.underlying4
  a4 := Tryd.isAgg4
  z4 := Tryd.sizeOf4
  v4 := Tryd.zeroValue4
  t9 := Tryd.underlying9
  a9 := Tryd.isAgg9
  z9 := Tryd.sizeOf9
  v9 := Tryd.zeroValue9
  t20 := Tryd.underlying20
  a20 := Tryd.isAgg20
  z20 := Tryd.sizeOf20
  v20 := Tryd.zeroValue20
  t37 := Tryd.underlying39
  a37 := Tryd.isAgg39
  z37 := Tryd.sizeOf39
  v37 := Tryd.zeroValue39
  t70 := Tryd.underlying38
  a70 := Tryd.isAgg38
  z70 := Tryd.sizeOf38
  v70 := Tryd.zeroValue38
  t72 := Tryd.underlying41
  a72 := Tryd.isAgg41
  z72 := Tryd.sizeOf41
  v72 := Tryd.zeroValue41
  t75 := Tryd.underlying44
  a75 := Tryd.isAgg44
  z75 := Tryd.sizeOf44
  v75 := Tryd.zeroValue44
  t164 := Tryd.underlying56
  a164 := Tryd.isAgg56
  z164 := Tryd.sizeOf56
  v164 := Tryd.zeroValue56 }
theorem Tryd.Builder_Extra_166 : Builder.Extra Tryd.prog Tryd.lays166_ren := {
  sizeBuilder := by kernel_rfl
  liesBuilder := by kernel_rfl
  t5 := Tryd.underlying5
  a5 := Tryd.isAgg5
  z5 := Tryd.sizeOf5
  v5 := Tryd.zeroValue5
  infoByte := by kernel_rfl
  cellsByte := by kernel_rfl
  sizeByte := by kernel_rfl
  neB5 := by decide }
open Go.RowKit in
theorem Tryd.Builder_WriteByte (B b : Nat) (bs : List Value) (c : Int) (w : World) (h : Lib.IsBuilder 41 5 B b bs w) (hlen : bs.length + 1 ≤ 140737488355328) (hBw : B ≤ w.heap.size) :
    Calls Tryd.prog 17 #[.pointer (some ⟨b, 0, none⟩), .int .u8 c] w fun e w' => e = .returned .nilIface ∧ (Lib.BuilderAt 41 5 B b (.pointer (some ⟨b, 0, none⟩)) (bs ++ [.int .u8 c]) w' ∧ Below B w w') := Any.Builder_WriteByte Tryd.lays167 Tryd.Builder_Extra_167 B b bs c w h hlen hBw
open Go.RowKit in
theorem Tryd.Builder_WriteString (B b : Nat) (bs : List Value) (s : ByteArray) (w : World) (h : Lib.IsBuilder 41 5 B b bs w) (hlen : bs.length + s.size ≤ 140737488355328) (hBw : B ≤ w.heap.size) :
    Calls Tryd.prog 18 #[.pointer (some ⟨b, 0, none⟩), .string s] w fun e w' => e = .returned (.tuple #[.int .i64 s.size, .nilIface]) ∧ (Lib.BuilderAt 41 5 B b (.pointer (some ⟨b, 0, none⟩)) (bs ++ Lib.strCells s) w' ∧ Below B w w') := Any.Builder_WriteString Tryd.lays166 Tryd.Builder_Extra_166 B b bs s w h hlen hBw
end Go.Proofs
