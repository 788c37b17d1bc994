/-
  No cell of these rows narrows 'for every input' (looked for: loops, veiled, ifaces, maps, wideKeys, modest, calm, conditions, laid).
  DERIVED. THE GIVEN ROWS OF THIS SEAT. 4 by the template 'for every input the law returns true; each argument reads behind the call as it read before'; 0 by the template 'total and deterministic' (their statements: Qxb6003799aTotals.lean).
  GIVEN WITH THE SEED: the statements are not yours to turn. If you find one false, say at which input.
  Laid BY PROGRAM, IN A SANDBOX (cutbox-rows.mjs): the forced cells as the released guide's own fill.sh prints them over the translation 989c5998f9eec242… (all of the seat's roots in one cut). By AI agents, Wed Nov 11 2026. No macro, syntax, notation, axiom, sorry.
-/
import Derived.Test.Qxb6003799aChecked
import GoSem.Claim
import GoSem.ClaimJoined
import GoSem.ClaimMapViews
import Derived.JoinedTies
import Derived.KernelRfl
namespace Go.Proofs.Qxb6003799a
/- THE CELL 'sum', in the pinned program and in every row, IS THE sha256 OF THE DUMP (.gsa) THAT Qxb6003799aProg.lean LOADS. Nothing in Lean hashes anything: it is a label: what it is worth is what the hold of that sum in a sandbox is worth. -/
noncomputable def Try.pinned : Pinned := { name := "qxb6003799a", sum := "989c5998f9eec242893dc152f1e44b779339ee441cd9befd91c61c9da636b14f", checked := Try.checked }
namespace Rows
def none {H : Type} : Left H := { results := [], args := [] }

/-- 'zzlaws_internal_sfv_g1.FnEveryKeyIsAToken': WHATEVER THE INPUT: true; the input reads as it did. -/
def fnEveryKeyIsATokenSpec : ChangeSpec := { name := "fnEveryKeyIsAToken", fn := fun _ => fun
  | [d] => { results := [.lit (.bool true)], args := [d] }
  | _ => none }
def fnEveryKeyIsATokenRow : OpenClaim := { program := "qxb6003799a", sum := "989c5998f9eec242893dc152f1e44b779339ee441cd9befd91c61c9da636b14f", func := "example.com/countersign/countersign/zzlaws_internal_sfv_g1.FnEveryKeyIsAToken", spec := "fnEveryKeyIsAToken", inPlace := ["internal/bytealg.IndexByteString"], apart := false }
def FnEveryKeyIsATokenSaid : Prop := fnEveryKeyIsATokenRow.holds Try.pinned (OpenSpec.ofChange fnEveryKeyIsATokenSpec)

/-- ITS FALSE NEIGHBOUR: 'it returns false'. Refute it at one input. -/
def fnEveryKeyIsATokenWrong : ChangeSpec := { name := "fnEveryKeyIsAToken", fn := fun _ => fun
  | [d] => { results := [.lit (.bool false)], args := [d] }
  | _ => none }
def FnEveryKeyIsATokenWrongFalsely : Prop := fnEveryKeyIsATokenRow.holds Try.pinned (OpenSpec.ofChange fnEveryKeyIsATokenWrong)

/-- 'zzlaws_internal_sfv_g1.FnKeyAndTokenClosedUnderConcat': WHATEVER THE INPUT: true; the input reads as it did. -/
def fnKeyAndTokenClosedUnderConcatSpec : ChangeSpec := { name := "fnKeyAndTokenClosedUnderConcat", fn := fun _ => fun
  | [d1, d2] => { results := [.lit (.bool true)], args := [d1, d2] }
  | _ => none }
def fnKeyAndTokenClosedUnderConcatRow : OpenClaim := { program := "qxb6003799a", sum := "989c5998f9eec242893dc152f1e44b779339ee441cd9befd91c61c9da636b14f", func := "example.com/countersign/countersign/zzlaws_internal_sfv_g1.FnKeyAndTokenClosedUnderConcat", spec := "fnKeyAndTokenClosedUnderConcat", inPlace := ["internal/bytealg.IndexByteString"], apart := false }
def FnKeyAndTokenClosedUnderConcatSaid : Prop := fnKeyAndTokenClosedUnderConcatRow.holds Try.pinned (OpenSpec.ofChange fnKeyAndTokenClosedUnderConcatSpec)

/-- ITS FALSE NEIGHBOUR: 'it returns false'. Refute it at one input. -/
def fnKeyAndTokenClosedUnderConcatWrong : ChangeSpec := { name := "fnKeyAndTokenClosedUnderConcat", fn := fun _ => fun
  | [d1, d2] => { results := [.lit (.bool false)], args := [d1, d2] }
  | _ => none }
def FnKeyAndTokenClosedUnderConcatWrongFalsely : Prop := fnKeyAndTokenClosedUnderConcatRow.holds Try.pinned (OpenSpec.ofChange fnKeyAndTokenClosedUnderConcatWrong)

/-- 'zzlaws_internal_sfv_g1.FnKeyAndTokenPrefixClosed': WHATEVER THE INPUT: true; the input reads as it did. -/
def fnKeyAndTokenPrefixClosedSpec : ChangeSpec := { name := "fnKeyAndTokenPrefixClosed", fn := fun _ => fun
  | [d1, d2] => { results := [.lit (.bool true)], args := [d1, d2] }
  | _ => none }
def fnKeyAndTokenPrefixClosedRow : OpenClaim := { program := "qxb6003799a", sum := "989c5998f9eec242893dc152f1e44b779339ee441cd9befd91c61c9da636b14f", func := "example.com/countersign/countersign/zzlaws_internal_sfv_g1.FnKeyAndTokenPrefixClosed", spec := "fnKeyAndTokenPrefixClosed", inPlace := ["internal/bytealg.IndexByteString"], apart := false }
def FnKeyAndTokenPrefixClosedSaid : Prop := fnKeyAndTokenPrefixClosedRow.holds Try.pinned (OpenSpec.ofChange fnKeyAndTokenPrefixClosedSpec)

/-- ITS FALSE NEIGHBOUR: 'it returns false'. Refute it at one input. -/
def fnKeyAndTokenPrefixClosedWrong : ChangeSpec := { name := "fnKeyAndTokenPrefixClosed", fn := fun _ => fun
  | [d1, d2] => { results := [.lit (.bool false)], args := [d1, d2] }
  | _ => none }
def FnKeyAndTokenPrefixClosedWrongFalsely : Prop := fnKeyAndTokenPrefixClosedRow.holds Try.pinned (OpenSpec.ofChange fnKeyAndTokenPrefixClosedWrong)

/-- 'zzlaws_internal_sfv_g1.FnTokenIgnoresCaseKeyIsLowerCase': WHATEVER THE INPUT: true; the input reads as it did. -/
def fnTokenIgnoresCaseKeyIsLowerCaseSpec : ChangeSpec := { name := "fnTokenIgnoresCaseKeyIsLowerCase", fn := fun _ => fun
  | [d] => { results := [.lit (.bool true)], args := [d] }
  | _ => none }
def fnTokenIgnoresCaseKeyIsLowerCaseRow : OpenClaim := { program := "qxb6003799a", sum := "989c5998f9eec242893dc152f1e44b779339ee441cd9befd91c61c9da636b14f", func := "example.com/countersign/countersign/zzlaws_internal_sfv_g1.FnTokenIgnoresCaseKeyIsLowerCase", spec := "fnTokenIgnoresCaseKeyIsLowerCase", inPlace := ["internal/bytealg.IndexByteString"], apart := false }
def FnTokenIgnoresCaseKeyIsLowerCaseSaid : Prop := fnTokenIgnoresCaseKeyIsLowerCaseRow.holds Try.pinned (OpenSpec.ofChange fnTokenIgnoresCaseKeyIsLowerCaseSpec)

/-- ITS FALSE NEIGHBOUR: 'it returns false'. Refute it at one input. -/
def fnTokenIgnoresCaseKeyIsLowerCaseWrong : ChangeSpec := { name := "fnTokenIgnoresCaseKeyIsLowerCase", fn := fun _ => fun
  | [d] => { results := [.lit (.bool false)], args := [d] }
  | _ => none }
def FnTokenIgnoresCaseKeyIsLowerCaseWrongFalsely : Prop := fnTokenIgnoresCaseKeyIsLowerCaseRow.holds Try.pinned (OpenSpec.ofChange fnTokenIgnoresCaseKeyIsLowerCaseWrong)

end Rows
end Go.Proofs.Qxb6003799a
