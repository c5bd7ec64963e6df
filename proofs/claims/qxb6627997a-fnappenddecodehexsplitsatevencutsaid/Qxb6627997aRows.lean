/-
  No cell of these rows narrows 'for every input' (looked for: loops, veiled, ifaces, maps, wideKeys, modest, calm, conditions, laid).
  DERIVED. THE GIVEN ROWS OF THIS SEAT. 2 by the template 'for every input the law returns true; each argument reads behind the call as it read before'; 0 by the template 'total and deterministic' (their statements: Qxb6627997aTotals.lean).
  GIVEN WITH THE SEED: the statements are not yours to turn. If you find one false, say at which input.
  Laid BY PROGRAM, IN A SANDBOX (cutbox-rows.mjs): the forced cells as the released guide's own fill.sh prints them over the translation 97693a23e4bf015d… (all of the seat's roots in one cut). By AI agents, Wed Nov 11 2026. No macro, syntax, notation, axiom, sorry.
-/
import Derived.Test.Qxb6627997aChecked
import GoSem.Claim
import GoSem.ClaimJoined
import GoSem.ClaimMapViews
import Derived.JoinedTies
import Derived.KernelRfl
namespace Go.Proofs.Qxb6627997a
/- THE CELL 'sum', in the pinned program and in every row, IS THE sha256 OF THE DUMP (.gsa) THAT Qxb6627997aProg.lean LOADS. Nothing in Lean hashes anything: it is a label: what it is worth is what the hold of that sum in a sandbox is worth. -/
noncomputable def Try.pinned : Pinned := { name := "qxb6627997a", sum := "97693a23e4bf015d0279d71925d914405d23dea453070cbe755ff93f47e5aa8e", checked := Try.checked }
namespace Rows
def none {H : Type} : Left H := { results := [], args := [] }

/-- 'zzlaws_internal_eca_b1.FnAppendDecodeHexMatchesSpellingSearch': WHATEVER THE INPUT: true; the input reads as it did. -/
def fnAppendDecodeHexMatchesSpellingSearchSpec : ChangeSpec := { name := "fnAppendDecodeHexMatchesSpellingSearch", fn := fun _ => fun
  | [d1, d2] => { results := [.lit (.bool true)], args := [d1, d2] }
  | _ => none }
def fnAppendDecodeHexMatchesSpellingSearchRow : OpenClaim := { program := "qxb6627997a", sum := "97693a23e4bf015d0279d71925d914405d23dea453070cbe755ff93f47e5aa8e", func := "example.com/liveseal/liveseal/zzlaws_internal_eca_b1.FnAppendDecodeHexMatchesSpellingSearch", spec := "fnAppendDecodeHexMatchesSpellingSearch", apart := false }
def FnAppendDecodeHexMatchesSpellingSearchSaid : Prop := fnAppendDecodeHexMatchesSpellingSearchRow.holds Try.pinned (OpenSpec.ofChange fnAppendDecodeHexMatchesSpellingSearchSpec)

/-- ITS FALSE NEIGHBOUR: 'it returns false'. Refute it at one input. -/
def fnAppendDecodeHexMatchesSpellingSearchWrong : ChangeSpec := { name := "fnAppendDecodeHexMatchesSpellingSearch", fn := fun _ => fun
  | [d1, d2] => { results := [.lit (.bool false)], args := [d1, d2] }
  | _ => none }
def FnAppendDecodeHexMatchesSpellingSearchWrongFalsely : Prop := fnAppendDecodeHexMatchesSpellingSearchRow.holds Try.pinned (OpenSpec.ofChange fnAppendDecodeHexMatchesSpellingSearchWrong)

/-- 'zzlaws_internal_eca_b1.FnAppendDecodeHexSplitsAtEvenCut': WHATEVER THE INPUT: true; the input reads as it did. -/
def fnAppendDecodeHexSplitsAtEvenCutSpec : ChangeSpec := { name := "fnAppendDecodeHexSplitsAtEvenCut", fn := fun _ => fun
  | [d1, d2, d3] => { results := [.lit (.bool true)], args := [d1, d2, d3] }
  | _ => none }
def fnAppendDecodeHexSplitsAtEvenCutRow : OpenClaim := { program := "qxb6627997a", sum := "97693a23e4bf015d0279d71925d914405d23dea453070cbe755ff93f47e5aa8e", func := "example.com/liveseal/liveseal/zzlaws_internal_eca_b1.FnAppendDecodeHexSplitsAtEvenCut", spec := "fnAppendDecodeHexSplitsAtEvenCut", apart := false }
def FnAppendDecodeHexSplitsAtEvenCutSaid : Prop := fnAppendDecodeHexSplitsAtEvenCutRow.holds Try.pinned (OpenSpec.ofChange fnAppendDecodeHexSplitsAtEvenCutSpec)

/-- ITS FALSE NEIGHBOUR: 'it returns false'. Refute it at one input. -/
def fnAppendDecodeHexSplitsAtEvenCutWrong : ChangeSpec := { name := "fnAppendDecodeHexSplitsAtEvenCut", fn := fun _ => fun
  | [d1, d2, d3] => { results := [.lit (.bool false)], args := [d1, d2, d3] }
  | _ => none }
def FnAppendDecodeHexSplitsAtEvenCutWrongFalsely : Prop := fnAppendDecodeHexSplitsAtEvenCutRow.holds Try.pinned (OpenSpec.ofChange fnAppendDecodeHexSplitsAtEvenCutWrong)

end Rows
end Go.Proofs.Qxb6627997a
