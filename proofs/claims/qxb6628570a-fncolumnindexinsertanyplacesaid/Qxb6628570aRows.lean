/-
  No cell of these rows narrows 'for every input' (looked for: loops, veiled, ifaces, maps, wideKeys, modest, calm, conditions, laid).
  DERIVED. THE GIVEN ROWS OF THIS SEAT. 2 by the template 'for every input the law returns true; each argument reads behind the call as it read before'; 0 by the template 'total and deterministic' (their statements: Qxb6628570aTotals.lean).
  GIVEN WITH THE SEED: the statements are not yours to turn. If you find one false, say at which input.
  Laid BY PROGRAM, IN A SANDBOX (cutbox-rows.mjs): the forced cells as the released guide's own fill.sh prints them over the translation 843ae224a2f8f64d… (all of the seat's roots in one cut). By AI agents, Wed Nov 11 2026. No macro, syntax, notation, axiom, sorry.
-/
import Derived.Test.Qxb6628570aChecked
import GoSem.Claim
import GoSem.ClaimJoined
import GoSem.ClaimMapViews
import Derived.JoinedTies
import Derived.KernelRfl
namespace Go.Proofs.Qxb6628570a
/- THE CELL 'sum', in the pinned program and in every row, IS THE sha256 OF THE DUMP (.gsa) THAT Qxb6628570aProg.lean LOADS. Nothing in Lean hashes anything: it is a label: what it is worth is what the hold of that sum in a sandbox is worth. -/
noncomputable def Try.pinned : Pinned := { name := "qxb6628570a", sum := "843ae224a2f8f64d3674ca48db8c0c48114c53b0123675f6f1c5e0da35026ff3", checked := Try.checked }
namespace Rows
def none {H : Type} : Left H := { results := [], args := [] }

/-- 'zzlaws_internal_heap_b1.FnColumnIndexAnyCut': WHATEVER THE INPUT: true; the input reads as it did. -/
def fnColumnIndexAnyCutSpec : ChangeSpec := { name := "fnColumnIndexAnyCut", fn := fun _ => fun
  | [d1, d2, d3] => { results := [.lit (.bool true)], args := [d1, d2, d3] }
  | _ => none }
def fnColumnIndexAnyCutRow : OpenClaim := { program := "qxb6628570a", sum := "843ae224a2f8f64d3674ca48db8c0c48114c53b0123675f6f1c5e0da35026ff3", func := "example.com/retroblock/retroblock/zzlaws_internal_heap_b1.FnColumnIndexAnyCut", spec := "fnColumnIndexAnyCut", apart := false }
def FnColumnIndexAnyCutSaid : Prop := fnColumnIndexAnyCutRow.holds Try.pinned (OpenSpec.ofChange fnColumnIndexAnyCutSpec)

/-- ITS FALSE NEIGHBOUR: 'it returns false'. Refute it at one input. -/
def fnColumnIndexAnyCutWrong : ChangeSpec := { name := "fnColumnIndexAnyCut", fn := fun _ => fun
  | [d1, d2, d3] => { results := [.lit (.bool false)], args := [d1, d2, d3] }
  | _ => none }
def FnColumnIndexAnyCutWrongFalsely : Prop := fnColumnIndexAnyCutRow.holds Try.pinned (OpenSpec.ofChange fnColumnIndexAnyCutWrong)

/-- 'zzlaws_internal_heap_b1.FnColumnIndexInsertAnyPlace': WHATEVER THE INPUT: true; the input reads as it did. -/
def fnColumnIndexInsertAnyPlaceSpec : ChangeSpec := { name := "fnColumnIndexInsertAnyPlace", fn := fun _ => fun
  | [d1, d2, d3, d4, d5, d6] => { results := [.lit (.bool true)], args := [d1, d2, d3, d4, d5, d6] }
  | _ => none }
def fnColumnIndexInsertAnyPlaceRow : OpenClaim := { program := "qxb6628570a", sum := "843ae224a2f8f64d3674ca48db8c0c48114c53b0123675f6f1c5e0da35026ff3", func := "example.com/retroblock/retroblock/zzlaws_internal_heap_b1.FnColumnIndexInsertAnyPlace", spec := "fnColumnIndexInsertAnyPlace", apart := false }
def FnColumnIndexInsertAnyPlaceSaid : Prop := fnColumnIndexInsertAnyPlaceRow.holds Try.pinned (OpenSpec.ofChange fnColumnIndexInsertAnyPlaceSpec)

/-- ITS FALSE NEIGHBOUR: 'it returns false'. Refute it at one input. -/
def fnColumnIndexInsertAnyPlaceWrong : ChangeSpec := { name := "fnColumnIndexInsertAnyPlace", fn := fun _ => fun
  | [d1, d2, d3, d4, d5, d6] => { results := [.lit (.bool false)], args := [d1, d2, d3, d4, d5, d6] }
  | _ => none }
def FnColumnIndexInsertAnyPlaceWrongFalsely : Prop := fnColumnIndexInsertAnyPlaceRow.holds Try.pinned (OpenSpec.ofChange fnColumnIndexInsertAnyPlaceWrong)

end Rows
end Go.Proofs.Qxb6628570a
