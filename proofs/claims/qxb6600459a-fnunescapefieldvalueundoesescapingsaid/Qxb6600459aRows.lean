/-
  No cell of these rows narrows 'for every input' (looked for: loops, veiled, ifaces, maps, wideKeys, modest, calm, conditions, laid).
  DERIVED. THE GIVEN ROWS OF THIS SEAT. 3 by the template 'for every input the law returns true; each argument reads behind the call as it read before'; 0 by the template 'total and deterministic' (their statements: Qxb6600459aTotals.lean).
  GIVEN WITH THE SEED: the statements are not yours to turn. If you find one false, say at which input.
  Laid BY PROGRAM, IN A SANDBOX (cutbox-rows.mjs): the forced cells as the released guide's own fill.sh prints them over the translation 8c7d0fe8ac1bd5d9… (all of the seat's roots in one cut). By AI agents, Wed Nov 11 2026. No macro, syntax, notation, axiom, sorry.
-/
import Derived.Test.Qxb6600459aChecked
import GoSem.Claim
import GoSem.ClaimJoined
import GoSem.ClaimMapViews
import Derived.JoinedTies
import Derived.KernelRfl
namespace Go.Proofs.Qxb6600459a
/- THE CELL 'sum', in the pinned program and in every row, IS THE sha256 OF THE DUMP (.gsa) THAT Qxb6600459aProg.lean LOADS. Nothing in Lean hashes anything: it is a label: what it is worth is what the hold of that sum in a sandbox is worth. -/
noncomputable def Try.pinned : Pinned := { name := "qxb6600459a", sum := "8c7d0fe8ac1bd5d946c74fec7706f2e277127f67e59c02fdff3872bdf4dd89fd", checked := Try.checked }
namespace Rows
def none {H : Type} : Left H := { results := [], args := [] }

/-- 'zzlaws_internal_meta_b1.FnUnescapeFieldValueByBackslashRuns': WHATEVER THE INPUT: true; the input reads as it did. -/
def fnUnescapeFieldValueByBackslashRunsSpec : ChangeSpec := { name := "fnUnescapeFieldValueByBackslashRuns", fn := fun _ => fun
  | [d] => { results := [.lit (.bool true)], args := [d] }
  | _ => none }
def fnUnescapeFieldValueByBackslashRunsRow : OpenClaim := { program := "qxb6600459a", sum := "8c7d0fe8ac1bd5d946c74fec7706f2e277127f67e59c02fdff3872bdf4dd89fd", func := "example.com/registrar/registrar/zzlaws_internal_meta_b1.FnUnescapeFieldValueByBackslashRuns", spec := "fnUnescapeFieldValueByBackslashRuns", inPlace := ["internal/abi.NoEscape", "internal/bytealg.IndexByteString"], apart := false }
def FnUnescapeFieldValueByBackslashRunsSaid : Prop := fnUnescapeFieldValueByBackslashRunsRow.holds Try.pinned (OpenSpec.ofChange fnUnescapeFieldValueByBackslashRunsSpec)

/-- ITS FALSE NEIGHBOUR: 'it returns false'. Refute it at one input. -/
def fnUnescapeFieldValueByBackslashRunsWrong : ChangeSpec := { name := "fnUnescapeFieldValueByBackslashRuns", fn := fun _ => fun
  | [d] => { results := [.lit (.bool false)], args := [d] }
  | _ => none }
def FnUnescapeFieldValueByBackslashRunsWrongFalsely : Prop := fnUnescapeFieldValueByBackslashRunsRow.holds Try.pinned (OpenSpec.ofChange fnUnescapeFieldValueByBackslashRunsWrong)

/-- 'zzlaws_internal_meta_b1.FnUnescapeFieldValueUndoesEscaping': WHATEVER THE INPUT: true; the input reads as it did. -/
def fnUnescapeFieldValueUndoesEscapingSpec : ChangeSpec := { name := "fnUnescapeFieldValueUndoesEscaping", fn := fun _ => fun
  | [d] => { results := [.lit (.bool true)], args := [d] }
  | _ => none }
def fnUnescapeFieldValueUndoesEscapingRow : OpenClaim := { program := "qxb6600459a", sum := "8c7d0fe8ac1bd5d946c74fec7706f2e277127f67e59c02fdff3872bdf4dd89fd", func := "example.com/registrar/registrar/zzlaws_internal_meta_b1.FnUnescapeFieldValueUndoesEscaping", spec := "fnUnescapeFieldValueUndoesEscaping", inPlace := ["internal/abi.NoEscape", "internal/bytealg.IndexByteString"], apart := false }
def FnUnescapeFieldValueUndoesEscapingSaid : Prop := fnUnescapeFieldValueUndoesEscapingRow.holds Try.pinned (OpenSpec.ofChange fnUnescapeFieldValueUndoesEscapingSpec)

/-- ITS FALSE NEIGHBOUR: 'it returns false'. Refute it at one input. -/
def fnUnescapeFieldValueUndoesEscapingWrong : ChangeSpec := { name := "fnUnescapeFieldValueUndoesEscaping", fn := fun _ => fun
  | [d] => { results := [.lit (.bool false)], args := [d] }
  | _ => none }
def FnUnescapeFieldValueUndoesEscapingWrongFalsely : Prop := fnUnescapeFieldValueUndoesEscapingRow.holds Try.pinned (OpenSpec.ofChange fnUnescapeFieldValueUndoesEscapingWrong)

/-- 'zzlaws_internal_meta_b1.FnUnescapeFieldValueOnlyDropsBackslashes': WHATEVER THE INPUT: true; the input reads as it did. -/
def fnUnescapeFieldValueOnlyDropsBackslashesSpec : ChangeSpec := { name := "fnUnescapeFieldValueOnlyDropsBackslashes", fn := fun _ => fun
  | [d] => { results := [.lit (.bool true)], args := [d] }
  | _ => none }
def fnUnescapeFieldValueOnlyDropsBackslashesRow : OpenClaim := { program := "qxb6600459a", sum := "8c7d0fe8ac1bd5d946c74fec7706f2e277127f67e59c02fdff3872bdf4dd89fd", func := "example.com/registrar/registrar/zzlaws_internal_meta_b1.FnUnescapeFieldValueOnlyDropsBackslashes", spec := "fnUnescapeFieldValueOnlyDropsBackslashes", inPlace := ["internal/abi.NoEscape", "internal/bytealg.IndexByteString"], apart := false }
def FnUnescapeFieldValueOnlyDropsBackslashesSaid : Prop := fnUnescapeFieldValueOnlyDropsBackslashesRow.holds Try.pinned (OpenSpec.ofChange fnUnescapeFieldValueOnlyDropsBackslashesSpec)

/-- ITS FALSE NEIGHBOUR: 'it returns false'. Refute it at one input. -/
def fnUnescapeFieldValueOnlyDropsBackslashesWrong : ChangeSpec := { name := "fnUnescapeFieldValueOnlyDropsBackslashes", fn := fun _ => fun
  | [d] => { results := [.lit (.bool false)], args := [d] }
  | _ => none }
def FnUnescapeFieldValueOnlyDropsBackslashesWrongFalsely : Prop := fnUnescapeFieldValueOnlyDropsBackslashesRow.holds Try.pinned (OpenSpec.ofChange fnUnescapeFieldValueOnlyDropsBackslashesWrong)

end Rows
end Go.Proofs.Qxb6600459a
