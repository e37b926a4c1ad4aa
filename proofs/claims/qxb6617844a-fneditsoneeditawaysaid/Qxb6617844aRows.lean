/-
  No cell of these rows narrows 'for every input' (looked for: loops, veiled, ifaces, maps, wideKeys, modest, calm, conditions, laid).
  DERIVED. THE GIVEN ROWS OF THIS SEAT. 4 by the template 'for every input the law returns true; each argument reads behind the call as it read before'; 0 by the template 'total and deterministic' (their statements: Qxb6617844aTotals.lean).
  GIVEN WITH THE SEED: the statements are not yours to turn. If you find one false, say at which input.
  Laid BY PROGRAM, IN A SANDBOX (cutbox-rows.mjs): the forced cells as the released guide's own fill.sh prints them over the translation 0d7064cfd45bf94c… (all of the seat's roots in one cut). By AI agents, Wed Nov 11 2026. No macro, syntax, notation, axiom, sorry.
-/
import Derived.Test.Qxb6617844aChecked
import GoSem.Claim
import GoSem.ClaimJoined
import GoSem.ClaimMapViews
import Derived.JoinedTies
import Derived.KernelRfl
namespace Go.Proofs.Qxb6617844a
/- THE CELL 'sum', in the pinned program and in every row, IS THE sha256 OF THE DUMP (.gsa) THAT Qxb6617844aProg.lean LOADS. Nothing in Lean hashes anything: it is a label: what it is worth is what the hold of that sum in a sandbox is worth. -/
noncomputable def Try.pinned : Pinned := { name := "qxb6617844a", sum := "0d7064cfd45bf94c5e8dfc5b13b7ceddefb3f1dba1492f342b14e434e3bd4d41", checked := Try.checked }
namespace Rows
def none {H : Type} : Left H := { results := [], args := [] }

/-- 'zzlaws_refusal_b1.FnEditsIsCappedOptimalStringAlignment': WHATEVER THE INPUT: true; the input reads as it did. -/
def fnEditsIsCappedOptimalStringAlignmentSpec : ChangeSpec := { name := "fnEditsIsCappedOptimalStringAlignment", fn := fun _ => fun
  | [d1, d2] => { results := [.lit (.bool true)], args := [d1, d2] }
  | _ => none }
def fnEditsIsCappedOptimalStringAlignmentRow : OpenClaim := { program := "qxb6617844a", sum := "0d7064cfd45bf94c5e8dfc5b13b7ceddefb3f1dba1492f342b14e434e3bd4d41", func := "example.com/austere-exec/austere-exec/zzlaws_refusal_b1.FnEditsIsCappedOptimalStringAlignment", spec := "fnEditsIsCappedOptimalStringAlignment", apart := false }
def FnEditsIsCappedOptimalStringAlignmentSaid : Prop := fnEditsIsCappedOptimalStringAlignmentRow.holds Try.pinned (OpenSpec.ofChange fnEditsIsCappedOptimalStringAlignmentSpec)

/-- ITS FALSE NEIGHBOUR: 'it returns false'. Refute it at one input. -/
def fnEditsIsCappedOptimalStringAlignmentWrong : ChangeSpec := { name := "fnEditsIsCappedOptimalStringAlignment", fn := fun _ => fun
  | [d1, d2] => { results := [.lit (.bool false)], args := [d1, d2] }
  | _ => none }
def FnEditsIsCappedOptimalStringAlignmentWrongFalsely : Prop := fnEditsIsCappedOptimalStringAlignmentRow.holds Try.pinned (OpenSpec.ofChange fnEditsIsCappedOptimalStringAlignmentWrong)

/-- 'zzlaws_refusal_b1.FnEditsOneEditAway': WHATEVER THE INPUT: true; the input reads as it did. -/
def fnEditsOneEditAwaySpec : ChangeSpec := { name := "fnEditsOneEditAway", fn := fun _ => fun
  | [d1, d2, d3, d4] => { results := [.lit (.bool true)], args := [d1, d2, d3, d4] }
  | _ => none }
def fnEditsOneEditAwayRow : OpenClaim := { program := "qxb6617844a", sum := "0d7064cfd45bf94c5e8dfc5b13b7ceddefb3f1dba1492f342b14e434e3bd4d41", func := "example.com/austere-exec/austere-exec/zzlaws_refusal_b1.FnEditsOneEditAway", spec := "fnEditsOneEditAway", apart := false }
def FnEditsOneEditAwaySaid : Prop := fnEditsOneEditAwayRow.holds Try.pinned (OpenSpec.ofChange fnEditsOneEditAwaySpec)

/-- ITS FALSE NEIGHBOUR: 'it returns false'. Refute it at one input. -/
def fnEditsOneEditAwayWrong : ChangeSpec := { name := "fnEditsOneEditAway", fn := fun _ => fun
  | [d1, d2, d3, d4] => { results := [.lit (.bool false)], args := [d1, d2, d3, d4] }
  | _ => none }
def FnEditsOneEditAwayWrongFalsely : Prop := fnEditsOneEditAwayRow.holds Try.pinned (OpenSpec.ofChange fnEditsOneEditAwayWrong)

/-- 'zzlaws_refusal_b1.FnListCutAtAnyPlace': WHATEVER THE INPUT: true; the input reads as it did. -/
def fnListCutAtAnyPlaceSpec : ChangeSpec := { name := "fnListCutAtAnyPlace", fn := fun _ => fun
  | [d1, d2, d3] => { results := [.lit (.bool true)], args := [d1, d2, d3] }
  | _ => none }
def fnListCutAtAnyPlaceRow : OpenClaim := { program := "qxb6617844a", sum := "0d7064cfd45bf94c5e8dfc5b13b7ceddefb3f1dba1492f342b14e434e3bd4d41", func := "example.com/austere-exec/austere-exec/zzlaws_refusal_b1.FnListCutAtAnyPlace", spec := "fnListCutAtAnyPlace", inPlace := ["internal/abi.NoEscape", "internal/bytealg.MakeNoZero"], apart := false }
def FnListCutAtAnyPlaceSaid : Prop := fnListCutAtAnyPlaceRow.holds Try.pinned (OpenSpec.ofChange fnListCutAtAnyPlaceSpec)

/-- ITS FALSE NEIGHBOUR: 'it returns false'. Refute it at one input. -/
def fnListCutAtAnyPlaceWrong : ChangeSpec := { name := "fnListCutAtAnyPlace", fn := fun _ => fun
  | [d1, d2, d3] => { results := [.lit (.bool false)], args := [d1, d2, d3] }
  | _ => none }
def FnListCutAtAnyPlaceWrongFalsely : Prop := fnListCutAtAnyPlaceRow.holds Try.pinned (OpenSpec.ofChange fnListCutAtAnyPlaceWrong)

/-- 'zzlaws_refusal_b1.FnListConjunctionMattersFromTwoWords': WHATEVER THE INPUT: true; the input reads as it did. -/
def fnListConjunctionMattersFromTwoWordsSpec : ChangeSpec := { name := "fnListConjunctionMattersFromTwoWords", fn := fun _ => fun
  | [d1, d2, d3] => { results := [.lit (.bool true)], args := [d1, d2, d3] }
  | _ => none }
def fnListConjunctionMattersFromTwoWordsRow : OpenClaim := { program := "qxb6617844a", sum := "0d7064cfd45bf94c5e8dfc5b13b7ceddefb3f1dba1492f342b14e434e3bd4d41", func := "example.com/austere-exec/austere-exec/zzlaws_refusal_b1.FnListConjunctionMattersFromTwoWords", spec := "fnListConjunctionMattersFromTwoWords", inPlace := ["internal/abi.NoEscape", "internal/bytealg.MakeNoZero"], apart := false }
def FnListConjunctionMattersFromTwoWordsSaid : Prop := fnListConjunctionMattersFromTwoWordsRow.holds Try.pinned (OpenSpec.ofChange fnListConjunctionMattersFromTwoWordsSpec)

/-- ITS FALSE NEIGHBOUR: 'it returns false'. Refute it at one input. -/
def fnListConjunctionMattersFromTwoWordsWrong : ChangeSpec := { name := "fnListConjunctionMattersFromTwoWords", fn := fun _ => fun
  | [d1, d2, d3] => { results := [.lit (.bool false)], args := [d1, d2, d3] }
  | _ => none }
def FnListConjunctionMattersFromTwoWordsWrongFalsely : Prop := fnListConjunctionMattersFromTwoWordsRow.holds Try.pinned (OpenSpec.ofChange fnListConjunctionMattersFromTwoWordsWrong)

end Rows
end Go.Proofs.Qxb6617844a
