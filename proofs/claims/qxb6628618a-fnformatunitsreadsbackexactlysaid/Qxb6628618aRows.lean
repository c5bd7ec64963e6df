/-
  No cell of these rows narrows 'for every input' (looked for: loops, veiled, ifaces, maps, wideKeys, modest, calm, conditions, laid).
  DERIVED. THE GIVEN ROWS OF THIS SEAT. 2 by the template 'for every input the law returns true; each argument reads behind the call as it read before'; 0 by the template 'total and deterministic' (their statements: Qxb6628618aTotals.lean).
  GIVEN WITH THE SEED: the statements are not yours to turn. If you find one false, say at which input.
  Laid BY PROGRAM, IN A SANDBOX (cutbox-rows.mjs): the forced cells as the released guide's own fill.sh prints them over the translation 92c5b87ecdfb4b96… (all of the seat's roots in one cut). By AI agents, Wed Nov 11 2026. No macro, syntax, notation, axiom, sorry.
-/
import Derived.Test.Qxb6628618aChecked
import GoSem.Claim
import GoSem.ClaimJoined
import GoSem.ClaimMapViews
import Derived.JoinedTies
import Derived.KernelRfl
namespace Go.Proofs.Qxb6628618a
/- THE CELL 'sum', in the pinned program and in every row, IS THE sha256 OF THE DUMP (.gsa) THAT Qxb6628618aProg.lean LOADS. Nothing in Lean hashes anything: it is a label: what it is worth is what the hold of that sum in a sandbox is worth. -/
noncomputable def Try.pinned : Pinned := { name := "qxb6628618a", sum := "92c5b87ecdfb4b9693c73b271d615fb333dbc9fe04d33587eb9c277bb64c4890", checked := Try.checked }
namespace Rows
def none {H : Type} : Left H := { results := [], args := [] }

/-- 'zzlaws_internal_decimal_b1.FnFormatUnitsReadsBackExactly': WHATEVER THE INPUT: true; the input reads as it did. -/
def fnFormatUnitsReadsBackExactlySpec : ChangeSpec := { name := "fnFormatUnitsReadsBackExactly", fn := fun _ => fun
  | [d1, d2] => { results := [.lit (.bool true)], args := [d1, d2] }
  | _ => none }
def fnFormatUnitsReadsBackExactlyRow : OpenClaim := { program := "qxb6628618a", sum := "92c5b87ecdfb4b9693c73b271d615fb333dbc9fe04d33587eb9c277bb64c4890", func := "example.com/zhaomu/zhaomu/zzlaws_internal_decimal_b1.FnFormatUnitsReadsBackExactly", spec := "fnFormatUnitsReadsBackExactly", apart := false }
def FnFormatUnitsReadsBackExactlySaid : Prop := fnFormatUnitsReadsBackExactlyRow.holds Try.pinned (OpenSpec.ofChange fnFormatUnitsReadsBackExactlySpec)

/-- ITS FALSE NEIGHBOUR: 'it returns false'. Refute it at one input. -/
def fnFormatUnitsReadsBackExactlyWrong : ChangeSpec := { name := "fnFormatUnitsReadsBackExactly", fn := fun _ => fun
  | [d1, d2] => { results := [.lit (.bool false)], args := [d1, d2] }
  | _ => none }
def FnFormatUnitsReadsBackExactlyWrongFalsely : Prop := fnFormatUnitsReadsBackExactlyRow.holds Try.pinned (OpenSpec.ofChange fnFormatUnitsReadsBackExactlyWrong)

/-- 'zzlaws_internal_decimal_b1.FnFormatUnitsTenfoldUnitsOneMorePlace': WHATEVER THE INPUT: true; the input reads as it did. -/
def fnFormatUnitsTenfoldUnitsOneMorePlaceSpec : ChangeSpec := { name := "fnFormatUnitsTenfoldUnitsOneMorePlace", fn := fun _ => fun
  | [d1, d2] => { results := [.lit (.bool true)], args := [d1, d2] }
  | _ => none }
def fnFormatUnitsTenfoldUnitsOneMorePlaceRow : OpenClaim := { program := "qxb6628618a", sum := "92c5b87ecdfb4b9693c73b271d615fb333dbc9fe04d33587eb9c277bb64c4890", func := "example.com/zhaomu/zhaomu/zzlaws_internal_decimal_b1.FnFormatUnitsTenfoldUnitsOneMorePlace", spec := "fnFormatUnitsTenfoldUnitsOneMorePlace", apart := false }
def FnFormatUnitsTenfoldUnitsOneMorePlaceSaid : Prop := fnFormatUnitsTenfoldUnitsOneMorePlaceRow.holds Try.pinned (OpenSpec.ofChange fnFormatUnitsTenfoldUnitsOneMorePlaceSpec)

/-- ITS FALSE NEIGHBOUR: 'it returns false'. Refute it at one input. -/
def fnFormatUnitsTenfoldUnitsOneMorePlaceWrong : ChangeSpec := { name := "fnFormatUnitsTenfoldUnitsOneMorePlace", fn := fun _ => fun
  | [d1, d2] => { results := [.lit (.bool false)], args := [d1, d2] }
  | _ => none }
def FnFormatUnitsTenfoldUnitsOneMorePlaceWrongFalsely : Prop := fnFormatUnitsTenfoldUnitsOneMorePlaceRow.holds Try.pinned (OpenSpec.ofChange fnFormatUnitsTenfoldUnitsOneMorePlaceWrong)

end Rows
end Go.Proofs.Qxb6628618a
