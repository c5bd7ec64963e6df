/-
  No cell of these rows narrows 'for every input' (looked for: loops, veiled, ifaces, maps, wideKeys, modest, calm, conditions, laid).
  DERIVED. THE GIVEN ROWS OF THIS SEAT. 2 by the template 'for every input the law returns true; each argument reads behind the call as it read before'; 0 by the template 'total and deterministic' (their statements: Qxb6628528aTotals.lean).
  GIVEN WITH THE SEED: the statements are not yours to turn. If you find one false, say at which input.
  Laid BY PROGRAM, IN A SANDBOX (cutbox-rows.mjs): the forced cells as the released guide's own fill.sh prints them over the translation 3dac69e6efa1dc25… (all of the seat's roots in one cut). By AI agents, Wed Nov 11 2026. No macro, syntax, notation, axiom, sorry.
-/
import Derived.Test.Qxb6628528aChecked
import GoSem.Claim
import GoSem.ClaimJoined
import GoSem.ClaimMapViews
import Derived.JoinedTies
import Derived.KernelRfl
namespace Go.Proofs.Qxb6628528a
/- THE CELL 'sum', in the pinned program and in every row, IS THE sha256 OF THE DUMP (.gsa) THAT Qxb6628528aProg.lean LOADS. Nothing in Lean hashes anything: it is a label: what it is worth is what the hold of that sum in a sandbox is worth. -/
noncomputable def Try.pinned : Pinned := { name := "qxb6628528a", sum := "3dac69e6efa1dc253fcc60ebe6d58e57921175c17321555bdc817422f22a4a2e", checked := Try.checked }
namespace Rows
def none {H : Type} : Left H := { results := [], args := [] }

/-- 'zzlaws_internal_aci_b1.FnStringAppendOneLabel': WHATEVER THE INPUT: true; the input reads as it did. -/
def fnStringAppendOneLabelSpec : ChangeSpec := { name := "fnStringAppendOneLabel", fn := fun _ => fun
  | [d1, d2, d3, d4, d5] => { results := [.lit (.bool true)], args := [d1, d2, d3, d4, d5] }
  | _ => none }
def fnStringAppendOneLabelRow : OpenClaim := { program := "qxb6628528a", sum := "3dac69e6efa1dc253fcc60ebe6d58e57921175c17321555bdc817422f22a4a2e", func := "example.com/lading/lading/zzlaws_internal_aci_b1.FnStringAppendOneLabel", spec := "fnStringAppendOneLabel", inPlace := ["internal/abi.NoEscape", "internal/bytealg.MakeNoZero"], apart := false }
def FnStringAppendOneLabelSaid : Prop := fnStringAppendOneLabelRow.holds Try.pinned (OpenSpec.ofChange fnStringAppendOneLabelSpec)

/-- ITS FALSE NEIGHBOUR: 'it returns false'. Refute it at one input. -/
def fnStringAppendOneLabelWrong : ChangeSpec := { name := "fnStringAppendOneLabel", fn := fun _ => fun
  | [d1, d2, d3, d4, d5] => { results := [.lit (.bool false)], args := [d1, d2, d3, d4, d5] }
  | _ => none }
def FnStringAppendOneLabelWrongFalsely : Prop := fnStringAppendOneLabelRow.holds Try.pinned (OpenSpec.ofChange fnStringAppendOneLabelWrong)

/-- 'zzlaws_internal_aci_b1.FnStringSplitLabelsAnywhere': WHATEVER THE INPUT: true; the input reads as it did. -/
def fnStringSplitLabelsAnywhereSpec : ChangeSpec := { name := "fnStringSplitLabelsAnywhere", fn := fun _ => fun
  | [d1, d2, d3, d4] => { results := [.lit (.bool true)], args := [d1, d2, d3, d4] }
  | _ => none }
def fnStringSplitLabelsAnywhereRow : OpenClaim := { program := "qxb6628528a", sum := "3dac69e6efa1dc253fcc60ebe6d58e57921175c17321555bdc817422f22a4a2e", func := "example.com/lading/lading/zzlaws_internal_aci_b1.FnStringSplitLabelsAnywhere", spec := "fnStringSplitLabelsAnywhere", inPlace := ["internal/abi.NoEscape", "internal/bytealg.MakeNoZero"], apart := false }
def FnStringSplitLabelsAnywhereSaid : Prop := fnStringSplitLabelsAnywhereRow.holds Try.pinned (OpenSpec.ofChange fnStringSplitLabelsAnywhereSpec)

/-- ITS FALSE NEIGHBOUR: 'it returns false'. Refute it at one input. -/
def fnStringSplitLabelsAnywhereWrong : ChangeSpec := { name := "fnStringSplitLabelsAnywhere", fn := fun _ => fun
  | [d1, d2, d3, d4] => { results := [.lit (.bool false)], args := [d1, d2, d3, d4] }
  | _ => none }
def FnStringSplitLabelsAnywhereWrongFalsely : Prop := fnStringSplitLabelsAnywhereRow.holds Try.pinned (OpenSpec.ofChange fnStringSplitLabelsAnywhereWrong)

end Rows
end Go.Proofs.Qxb6628528a
