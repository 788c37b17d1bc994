/-
  DERIVED: THE SHELF's CONTRACTS AT THIS DUMP, IN PLAIN WORDS (tools/lay-plain.mjs out of 'TryShelfTmp.lean', which tools/lay-shelf.mjs wrote): THE SAME DECLARATIONS UNDER THE SAME NAMES: 'import', 'namespace', 'open', 'def', 'theorem' AND NOTHING ELSE: no command of the shelf's: FOR A HAND-IN. Each laying: the table of numbers ('.._ren') and one theorem, a field a fact of the dump's own or the kernel's comparison; each contract: ONE APPLICATION.
-/
import Derived.Shelf.Small.Strs
import Derived.Shelf.Strings.Builder1
import Derived.Shelf.Spec.BuilderWrite
import Derived.Test.Qxb6613957aProg
namespace Go.Proofs
open Go.Shelf
def Try.lays169_ren : Go.Shelf.Ren := ⟨fun | 169 => 38 | n => n, fun | 70 => 58 | 9 => 9 | 0 => 0 | 72 => 60 | 37 => 27 | 127 => 66 | 3 => 3 | 5 => 5 | n => n, fun | n => n⟩
theorem Try.lays169 : Go.Proofs.Lays.n169 Try.prog Try.lays169_ren := {
  mixed := by kernel_rfl
  f169 := Try.func38.trans (congrArg some (by kernel_rfl))
  t0 := Try.underlying0
  a0 := Try.isAgg0
  z0 := Try.sizeOf0
  v0 := Try.zeroValue0
  t3 := Try.underlying3
  a3 := Try.isAgg3
  z3 := Try.sizeOf3
  v3 := Try.zeroValue3
  t9 := Try.underlying9
  a9 := Try.isAgg9
  z9 := Try.sizeOf9
  v9 := Try.zeroValue9
  t37 := Try.underlying27
  a37 := Try.isAgg27
  z37 := Try.sizeOf27
  v37 := Try.zeroValue27
  t70 := Try.underlying58
  a70 := Try.isAgg58
  z70 := Try.sizeOf58
  v70 := Try.zeroValue58
  t72 := Try.underlying60
  a72 := Try.isAgg60
  z72 := Try.sizeOf60
  v72 := Try.zeroValue60
  t127 := Try.underlying66
  a127 := Try.isAgg66
  z127 := Try.sizeOf66
  v127 := Try.zeroValue66 }
theorem Try.Builder_Extra_169 : Builder.Extra Try.prog Try.lays169_ren := {
  sizeBuilder := by kernel_rfl
  liesBuilder := by kernel_rfl
  t5 := Try.underlying5
  a5 := Try.isAgg5
  z5 := Try.sizeOf5
  v5 := Try.zeroValue5
  infoByte := by kernel_rfl
  cellsByte := by kernel_rfl
  sizeByte := by kernel_rfl
  neB5 := by decide }
open Go.RowKit in
theorem Try.Builder_String_any (B b : Nat) (l : List UInt8) (w : World) (h : Lib.IsBuilder 60 5 B b (Lib.byteCells l) w) (hBw : B ≤ w.heap.size) :
    Calls Try.prog 38 #[.pointer (some ⟨b, 0, none⟩)] w fun e w' => e = .returned (.string ⟨l.toArray⟩) ∧ Below B w w' := Any.Builder_String_any Try.lays169 Try.Builder_Extra_169 B b l w h hBw
def Try.lays137_ren : Go.Shelf.Ren := ⟨fun | 137 => 35 | 217 => 40 | 266 => 44 | n => n, fun | 9 => 9 | 5 => 5 | 3 => 3 | n => n, fun | n => n⟩
theorem Try.lays137 : Go.Proofs.Lays.n137 Try.prog Try.lays137_ren := {
  mixed := by kernel_rfl
  f137 := Try.func35.trans (congrArg some (by kernel_rfl))
  f217 := Try.func40.trans (congrArg some (by kernel_rfl))
  f266 := Try.func44.trans (congrArg some (by kernel_rfl))
  t3 := Try.underlying3
  a3 := Try.isAgg3
  z3 := Try.sizeOf3
  v3 := Try.zeroValue3
  t5 := Try.underlying5
  a5 := Try.isAgg5
  z5 := Try.sizeOf5
  v5 := Try.zeroValue5
  t9 := Try.underlying9
  a9 := Try.isAgg9
  z9 := Try.sizeOf9
  v9 := Try.zeroValue9 }
open Go.RowKit in
theorem Try.strings_IndexByte (s : ByteArray) (c : Int) (w : World) :
    Calls Try.prog 35 #[.string s, .int .u8 c] w fun e w' => e = .returned (.int .i64 (Lib.indexByte s.data.toList c.toNat.toUInt8)) ∧ w' = w := Any.strings_IndexByte Try.lays137 s c w
def Try.lays240_ren : Go.Shelf.Ren := ⟨fun | 240 => 42 | 276 => 45 | n => n, fun | 0 => 0 | 4 => 4 | 5 => 5 | 9 => 9 | 20 => 20 | 37 => 27 | 70 => 58 | 72 => 60 | 164 => 67 | n => n, fun | n => n⟩
theorem Try.lays240 : Go.Proofs.Lays.n240 Try.prog Try.lays240_ren := {
  mixed := by kernel_rfl
  f240 := Try.func42.trans (congrArg some (by kernel_rfl))
  f276 := Try.func45.trans (congrArg some (by kernel_rfl))
  t0 := Try.underlying0
  a0 := Try.isAgg0
  z0 := Try.sizeOf0
  v0 := Try.zeroValue0
  t4 := Try.underlying4
  a4 := Try.isAgg4
  z4 := Try.sizeOf4
  v4 := Try.zeroValue4
  t9 := Try.underlying9
  a9 := Try.isAgg9
  z9 := Try.sizeOf9
  v9 := Try.zeroValue9
  t20 := Try.underlying20
  a20 := Try.isAgg20
  z20 := Try.sizeOf20
  v20 := Try.zeroValue20
  t70 := Try.underlying58
  a70 := Try.isAgg58
  z70 := Try.sizeOf58
  v70 := Try.zeroValue58
  t72 := Try.underlying60
  a72 := Try.isAgg60
  z72 := Try.sizeOf60
  v72 := Try.zeroValue60
  t164 := Try.underlying67
  a164 := Try.isAgg67
  z164 := Try.sizeOf67
  v164 := Try.zeroValue67 }
theorem Try.Builder_Extra_240 : Builder.Extra Try.prog Try.lays240_ren := {
  sizeBuilder := by kernel_rfl
  liesBuilder := by kernel_rfl
  t5 := Try.underlying5
  a5 := Try.isAgg5
  z5 := Try.sizeOf5
  v5 := Try.zeroValue5
  infoByte := by kernel_rfl
  cellsByte := by kernel_rfl
  sizeByte := by kernel_rfl
  neB5 := by decide }
def Try.lays35w_ren : Go.Shelf.Ren := ⟨fun | 35 => 37 | 52 => 42 | 59 => 45 | n => n, fun | 0 => 0 | 3 => 3 | 4 => 4 | 5 => 5 | 9 => 9 | 20 => 20 | 30 => 27 | 36 => 58 | 38 => 62 | 59 => 60 | 73 => 67 | 89 => 65 | n => n, fun | n => n⟩
theorem Try.lays35w : Go.Proofs.Lays7.n35 Try.prog Try.lays35w_ren := {
  mixed := by kernel_rfl
  f35 := Try.func37.trans (congrArg some (by kernel_rfl))
  f52 := Try.func42.trans (congrArg some (by kernel_rfl))
  f59 := Try.func45.trans (congrArg some (by kernel_rfl))
  t0 := Try.underlying0
  a0 := Try.isAgg0
  z0 := Try.sizeOf0
  v0 := Try.zeroValue0
  i0 := by kernel_rfl
  t3 := Try.underlying3
  a3 := Try.isAgg3
  z3 := Try.sizeOf3
  v3 := Try.zeroValue3
  i3 := by kernel_rfl
  t4 := Try.underlying4
  a4 := Try.isAgg4
  z4 := Try.sizeOf4
  v4 := Try.zeroValue4
  i4 := by kernel_rfl
  t9 := Try.underlying9
  a9 := Try.isAgg9
  z9 := Try.sizeOf9
  v9 := Try.zeroValue9
  i9 := by kernel_rfl
  t20 := Try.underlying20
  a20 := Try.isAgg20
  z20 := Try.sizeOf20
  v20 := Try.zeroValue20
  i20 := by kernel_rfl
  t30 := Try.underlying27
  a30 := Try.isAgg27
  z30 := Try.sizeOf27
  v30 := Try.zeroValue27
  i30 := by kernel_rfl
  t36 := Try.underlying58
  a36 := Try.isAgg58
  z36 := Try.sizeOf58
  v36 := Try.zeroValue58
  i36 := by kernel_rfl
  t38 := Try.underlying62
  a38 := Try.isAgg62
  z38 := Try.sizeOf62
  v38 := Try.zeroValue62
  i38 := by kernel_rfl
  t59 := Try.underlying60
  a59 := Try.isAgg60
  z59 := Try.sizeOf60
  v59 := Try.zeroValue60
  i59 := by kernel_rfl
  t73 := Try.underlying67
  a73 := Try.isAgg67
  z73 := Try.sizeOf67
  v73 := Try.zeroValue67
  i73 := by kernel_rfl }
open Go.RowKit in
theorem Try.Builder_Write (B b : Nat) (bs : List Value) (ad : Addr) (m c : Nat) (news : List Value) (w : World) (h : Lib.IsBuilder 60 5 B b bs w)
    (hl : news.length = m) (hnews : ∀ j u, news[j]? = some u → w.cell? (ad.add j) = some u) (hadB : ad.block < B) (h1 : ∀ u ∈ news, u.oneCell' = true)
    (hlen : bs.length + m ≤ 140737488355328) (hBw : B ≤ w.heap.size) :
    Calls Try.prog 37 #[.pointer (some ⟨b, 0, none⟩), .slice (some ad) m c] w fun e w' => e = .returned (.tuple #[.int .i64 m, .nilIface]) ∧ (Lib.BuilderAt 60 5 B b (.pointer (some ⟨b, 0, none⟩)) (bs ++ news) w' ∧ Below B w w') :=
  Any7.Builder_Write Try.lays35w Try.lays240 Try.Builder_Extra_240 rfl rfl rfl B b bs ad m c news w h hl hnews hadB h1 hlen hBw
end Go.Proofs
