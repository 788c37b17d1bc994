/-
  THE SHELF's CONTRACTS AT THIS DUMP, LAID BY HAND IN PLAIN WORDS: (*strings.Builder).WriteByte, (*strings.Builder).String, strings.IndexByte: each laying: the table of numbers and one theorem, a field a fact of the dump's own or the kernel's comparison; each contract: one application.
-/
import Derived.Shelf.Small.Strs
import Derived.Shelf.Strings.Builder1
import Derived.Test.Qxb6600459aProg
namespace Go.Proofs
open Go.Shelf
def Try.lays167_ren : Go.Shelf.Ren := ⟨fun | 167 => 11 | 240 => 14 | 276 => 16 | n => n, fun | 0 => 0 | 4 => 4 | 5 => 5 | 9 => 9 | 20 => 20 | 37 => 25 | 70 => 26 | 72 => 28 | 75 => 30 | 80 => 33 | 164 => 35 | n => n, fun | n => n⟩
theorem Try.lays167 : Go.Proofs.Lays.n167 Try.prog Try.lays167_ren := {
  mixed := by kernel_rfl
  f167 := Try.func11.trans (congrArg some (by kernel_rfl))
  f240 := Try.func14.trans (congrArg some (by kernel_rfl))
  f276 := Try.func16.trans (congrArg some (by kernel_rfl))
  t0 := Try.underlying0
  a0 := Try.isAgg0
  z0 := Try.sizeOf0
  v0 := Try.zeroValue0
  t4 := Try.underlying4
  a4 := Try.isAgg4
  z4 := Try.sizeOf4
  v4 := Try.zeroValue4
  t5 := Try.underlying5
  a5 := Try.isAgg5
  z5 := Try.sizeOf5
  v5 := Try.zeroValue5
  t9 := Try.underlying9
  a9 := Try.isAgg9
  z9 := Try.sizeOf9
  v9 := Try.zeroValue9
  t20 := Try.underlying20
  a20 := Try.isAgg20
  z20 := Try.sizeOf20
  v20 := Try.zeroValue20
  t37 := Try.underlying25
  a37 := Try.isAgg25
  z37 := Try.sizeOf25
  v37 := Try.zeroValue25
  t70 := Try.underlying26
  a70 := Try.isAgg26
  z70 := Try.sizeOf26
  v70 := Try.zeroValue26
  t72 := Try.underlying28
  a72 := Try.isAgg28
  z72 := Try.sizeOf28
  v72 := Try.zeroValue28
  t75 := Try.underlying30
  a75 := Try.isAgg30
  z75 := Try.sizeOf30
  v75 := Try.zeroValue30
  t164 := Try.underlying35
  a164 := Try.isAgg35
  z164 := Try.sizeOf35
  v164 := Try.zeroValue35 }
theorem Try.Builder_Extra_167 : Builder.Extra Try.prog Try.lays167_ren := {
  sizeBuilder := by kernel_rfl
  liesBuilder := by kernel_rfl
  t5 := Try.underlying5
  a5 := Try.isAgg5
  z5 := Try.sizeOf5
  v5 := Try.zeroValue5
  infoByte := by kernel_rfl
  cellsByte := by kernel_rfl
  sizeByte := by kernel_rfl
  neB5 := by decide }
open Go.RowKit in
theorem Try.Builder_WriteByte (B b : Nat) (bs : List Value) (c : Int) (w : World) (h : Lib.IsBuilder 28 5 B b bs w) (hlen : bs.length + 1 ≤ 140737488355328) (hBw : B ≤ w.heap.size) :
    Calls Try.prog 11 #[.pointer (some ⟨b, 0, none⟩), .int .u8 c] w fun e w' => e = .returned .nilIface ∧ (Lib.BuilderAt 28 5 B b (.pointer (some ⟨b, 0, none⟩)) (bs ++ [.int .u8 c]) w' ∧ Below B w w') := Any.Builder_WriteByte Try.lays167 Try.Builder_Extra_167 B b bs c w h hlen hBw
def Try.lays169_ren : Go.Shelf.Ren := ⟨fun | 169 => 13 | n => n, fun | 70 => 26 | 9 => 9 | 0 => 0 | 72 => 28 | 37 => 25 | 127 => 34 | 3 => 3 | 5 => 5 | n => n, fun | n => n⟩
theorem Try.lays169 : Go.Proofs.Lays.n169 Try.prog Try.lays169_ren := {
  mixed := by kernel_rfl
  f169 := Try.func13.trans (congrArg some (by kernel_rfl))
  t0 := Try.underlying0
  a0 := Try.isAgg0
  z0 := Try.sizeOf0
  v0 := Try.zeroValue0
  t3 := Try.underlying3
  a3 := Try.isAgg3
  z3 := Try.sizeOf3
  v3 := Try.zeroValue3
  t9 := Try.underlying9
  a9 := Try.isAgg9
  z9 := Try.sizeOf9
  v9 := Try.zeroValue9
  t37 := Try.underlying25
  a37 := Try.isAgg25
  z37 := Try.sizeOf25
  v37 := Try.zeroValue25
  t70 := Try.underlying26
  a70 := Try.isAgg26
  z70 := Try.sizeOf26
  v70 := Try.zeroValue26
  t72 := Try.underlying28
  a72 := Try.isAgg28
  z72 := Try.sizeOf28
  v72 := Try.zeroValue28
  t127 := Try.underlying34
  a127 := Try.isAgg34
  z127 := Try.sizeOf34
  v127 := Try.zeroValue34 }
theorem Try.Builder_Extra_169 : Builder.Extra Try.prog Try.lays169_ren := {
  sizeBuilder := by kernel_rfl
  liesBuilder := by kernel_rfl
  t5 := Try.underlying5
  a5 := Try.isAgg5
  z5 := Try.sizeOf5
  v5 := Try.zeroValue5
  infoByte := by kernel_rfl
  cellsByte := by kernel_rfl
  sizeByte := by kernel_rfl
  neB5 := by decide }
open Go.RowKit in
theorem Try.Builder_String_any (B b : Nat) (l : List UInt8) (w : World) (h : Lib.IsBuilder 28 5 B b (Lib.byteCells l) w) (hBw : B ≤ w.heap.size) :
    Calls Try.prog 13 #[.pointer (some ⟨b, 0, none⟩)] w fun e w' => e = .returned (.string ⟨l.toArray⟩) ∧ Below B w w' := Any.Builder_String_any Try.lays169 Try.Builder_Extra_169 B b l w h hBw
def Try.lays137_ren : Go.Shelf.Ren := ⟨fun | 137 => 12 | 217 => 15 | 266 => 17 | n => n, fun | 9 => 9 | 5 => 5 | 3 => 3 | n => n, fun | n => n⟩
theorem Try.lays137 : Go.Proofs.Lays.n137 Try.prog Try.lays137_ren := {
  mixed := by kernel_rfl
  f137 := Try.func12.trans (congrArg some (by kernel_rfl))
  f217 := Try.func15.trans (congrArg some (by kernel_rfl))
  f266 := Try.func17.trans (congrArg some (by kernel_rfl))
  t3 := Try.underlying3
  a3 := Try.isAgg3
  z3 := Try.sizeOf3
  v3 := Try.zeroValue3
  t5 := Try.underlying5
  a5 := Try.isAgg5
  z5 := Try.sizeOf5
  v5 := Try.zeroValue5
  t9 := Try.underlying9
  a9 := Try.isAgg9
  z9 := Try.sizeOf9
  v9 := Try.zeroValue9 }
open Go.RowKit in
theorem Try.strings_IndexByte (s : ByteArray) (c : Int) (w : World) :
    Calls Try.prog 12 #[.string s, .int .u8 c] w fun e w' => e = .returned (.int .i64 (Lib.indexByte s.data.toList c.toNat.toUInt8)) ∧ w' = w := Any.strings_IndexByte Try.lays137 s c w
end Go.Proofs
