/-
  NARROWER THAN 'FOR EVERY INPUT', by the rows' own cells (each row's printed sentence says how): FnSpareFollowsOneRow: maps.
  DERIVED. THE GIVEN ROWS OF THIS SEAT. 5 by the template 'for every input the law returns true; each argument reads behind the call as it read before'; 0 by the template 'total and deterministic' (their statements: Qxb6617836aTotals.lean).
  GIVEN WITH THE SEED: the statements are not yours to turn. If you find one false, say at which input.
  Laid BY PROGRAM, IN A SANDBOX (cutbox-rows.mjs): the forced cells as the released guide's own fill.sh prints them over the translation b2b224f85dffc6c1… (all of the seat's roots in one cut). By AI agents, Wed Nov 11 2026. No macro, syntax, notation, axiom, sorry.
-/
import Derived.Test.Qxb6617836aChecked
import GoSem.Claim
import GoSem.ClaimJoined
import GoSem.ClaimMapViews
import Derived.JoinedTies
import Derived.KernelRfl
namespace Go.Proofs.Qxb6617836a
/- THE CELL 'sum', in the pinned program and in every row, IS THE sha256 OF THE DUMP (.gsa) THAT Qxb6617836aProg.lean LOADS. Nothing in Lean hashes anything: it is a label: what it is worth is what the hold of that sum in a sandbox is worth. -/
noncomputable def Try.pinned : Pinned := { name := "qxb6617836a", sum := "b2b224f85dffc6c1d31adc95d1ad140945af85cdc679f217bcec3b1db1578b67", checked := Try.checked }
namespace Rows
def none {H : Type} : Left H := { results := [], args := [] }

/-- 'zzlaws_internal_x11_b1.FnFrameOfChildSharesTheFrame': WHATEVER THE INPUT: true; the input reads as it did. -/
def fnFrameOfChildSharesTheFrameSpec : ChangeSpec := { name := "fnFrameOfChildSharesTheFrame", fn := fun _ => fun
  | [d1, d2, d3, d4, d5, d6, d7, d8, d9] => { results := [.lit (.bool true)], args := [d1, d2, d3, d4, d5, d6, d7, d8, d9] }
  | _ => none }
def fnFrameOfChildSharesTheFrameRow : OpenClaim := { program := "qxb6617836a", sum := "b2b224f85dffc6c1d31adc95d1ad140945af85cdc679f217bcec3b1db1578b67", func := "example.com/handrail/handrail/zzlaws_internal_x11_b1.FnFrameOfChildSharesTheFrame", spec := "fnFrameOfChildSharesTheFrame", apart := false }
def FnFrameOfChildSharesTheFrameSaid : Prop := fnFrameOfChildSharesTheFrameRow.holds Try.pinned (OpenSpec.ofChange fnFrameOfChildSharesTheFrameSpec)

/-- ITS FALSE NEIGHBOUR: 'it returns false'. Refute it at one input. -/
def fnFrameOfChildSharesTheFrameWrong : ChangeSpec := { name := "fnFrameOfChildSharesTheFrame", fn := fun _ => fun
  | [d1, d2, d3, d4, d5, d6, d7, d8, d9] => { results := [.lit (.bool false)], args := [d1, d2, d3, d4, d5, d6, d7, d8, d9] }
  | _ => none }
def FnFrameOfChildSharesTheFrameWrongFalsely : Prop := fnFrameOfChildSharesTheFrameRow.holds Try.pinned (OpenSpec.ofChange fnFrameOfChildSharesTheFrameWrong)

/-- 'zzlaws_internal_x11_b1.FnSpareFollowsOneRow': WHATEVER THE INPUT: true; the input reads as it did. -/
def fnSpareFollowsOneRowSpec : ChangeSpec := { name := "fnSpareFollowsOneRow", fn := fun _ => fun
  | [d1, d2, d3, d4, d5, d6, d7] => { results := [.lit (.bool true)], args := [d1, d2, d3, d4, d5, d6, d7] }
  | _ => none }
def fnSpareFollowsOneRowRow : OpenClaim := { program := "qxb6617836a", sum := "b2b224f85dffc6c1d31adc95d1ad140945af85cdc679f217bcec3b1db1578b67", func := "example.com/handrail/handrail/zzlaws_internal_x11_b1.FnSpareFollowsOneRow", spec := "fnSpareFollowsOneRow", maps := true, apart := false }
def FnSpareFollowsOneRowSaid : Prop := fnSpareFollowsOneRowRow.holds Try.pinned (OpenSpec.ofChange fnSpareFollowsOneRowSpec)

/-- ITS FALSE NEIGHBOUR: 'it returns false'. Refute it at one input. -/
def fnSpareFollowsOneRowWrong : ChangeSpec := { name := "fnSpareFollowsOneRow", fn := fun _ => fun
  | [d1, d2, d3, d4, d5, d6, d7] => { results := [.lit (.bool false)], args := [d1, d2, d3, d4, d5, d6, d7] }
  | _ => none }
def FnSpareFollowsOneRowWrongFalsely : Prop := fnSpareFollowsOneRowRow.holds Try.pinned (OpenSpec.ofChange fnSpareFollowsOneRowWrong)

/-- 'zzlaws_internal_x11_b1.FnTextOfIsLatin1AsUTF8UpToNUL': WHATEVER THE INPUT: true; the input reads as it did. -/
def fnTextOfIsLatin1AsUTF8UpToNULSpec : ChangeSpec := { name := "fnTextOfIsLatin1AsUTF8UpToNUL", fn := fun _ => fun
  | [d1, d2, d3, d4] => { results := [.lit (.bool true)], args := [d1, d2, d3, d4] }
  | _ => none }
def fnTextOfIsLatin1AsUTF8UpToNULRow : OpenClaim := { program := "qxb6617836a", sum := "b2b224f85dffc6c1d31adc95d1ad140945af85cdc679f217bcec3b1db1578b67", func := "example.com/handrail/handrail/zzlaws_internal_x11_b1.FnTextOfIsLatin1AsUTF8UpToNUL", spec := "fnTextOfIsLatin1AsUTF8UpToNUL", inPlace := ["internal/bytealg.IndexByte"], apart := false }
def FnTextOfIsLatin1AsUTF8UpToNULSaid : Prop := fnTextOfIsLatin1AsUTF8UpToNULRow.holds Try.pinned (OpenSpec.ofChange fnTextOfIsLatin1AsUTF8UpToNULSpec)

/-- ITS FALSE NEIGHBOUR: 'it returns false'. Refute it at one input. -/
def fnTextOfIsLatin1AsUTF8UpToNULWrong : ChangeSpec := { name := "fnTextOfIsLatin1AsUTF8UpToNUL", fn := fun _ => fun
  | [d1, d2, d3, d4] => { results := [.lit (.bool false)], args := [d1, d2, d3, d4] }
  | _ => none }
def FnTextOfIsLatin1AsUTF8UpToNULWrongFalsely : Prop := fnTextOfIsLatin1AsUTF8UpToNULRow.holds Try.pinned (OpenSpec.ofChange fnTextOfIsLatin1AsUTF8UpToNULWrong)

/-- 'zzlaws_internal_x11_b1.FnTextOfCutsAtAnyPlace': WHATEVER THE INPUT: true; the input reads as it did. -/
def fnTextOfCutsAtAnyPlaceSpec : ChangeSpec := { name := "fnTextOfCutsAtAnyPlace", fn := fun _ => fun
  | [d1, d2, d3, d4, d5] => { results := [.lit (.bool true)], args := [d1, d2, d3, d4, d5] }
  | _ => none }
def fnTextOfCutsAtAnyPlaceRow : OpenClaim := { program := "qxb6617836a", sum := "b2b224f85dffc6c1d31adc95d1ad140945af85cdc679f217bcec3b1db1578b67", func := "example.com/handrail/handrail/zzlaws_internal_x11_b1.FnTextOfCutsAtAnyPlace", spec := "fnTextOfCutsAtAnyPlace", inPlace := ["internal/bytealg.IndexByte"], apart := false }
def FnTextOfCutsAtAnyPlaceSaid : Prop := fnTextOfCutsAtAnyPlaceRow.holds Try.pinned (OpenSpec.ofChange fnTextOfCutsAtAnyPlaceSpec)

/-- ITS FALSE NEIGHBOUR: 'it returns false'. Refute it at one input. -/
def fnTextOfCutsAtAnyPlaceWrong : ChangeSpec := { name := "fnTextOfCutsAtAnyPlace", fn := fun _ => fun
  | [d1, d2, d3, d4, d5] => { results := [.lit (.bool false)], args := [d1, d2, d3, d4, d5] }
  | _ => none }
def FnTextOfCutsAtAnyPlaceWrongFalsely : Prop := fnTextOfCutsAtAnyPlaceRow.holds Try.pinned (OpenSpec.ofChange fnTextOfCutsAtAnyPlaceWrong)

/-- 'zzlaws_internal_x11_b1.FnFrameOfIsTheTopLevelAncestor': WHATEVER THE INPUT: true; the input reads as it did. -/
def fnFrameOfIsTheTopLevelAncestorSpec : ChangeSpec := { name := "fnFrameOfIsTheTopLevelAncestor", fn := fun _ => fun
  | [d1, d2, d3, d4, d5, d6, d7, d8, d9] => { results := [.lit (.bool true)], args := [d1, d2, d3, d4, d5, d6, d7, d8, d9] }
  | _ => none }
def fnFrameOfIsTheTopLevelAncestorRow : OpenClaim := { program := "qxb6617836a", sum := "b2b224f85dffc6c1d31adc95d1ad140945af85cdc679f217bcec3b1db1578b67", func := "example.com/handrail/handrail/zzlaws_internal_x11_b1.FnFrameOfIsTheTopLevelAncestor", spec := "fnFrameOfIsTheTopLevelAncestor", apart := false }
def FnFrameOfIsTheTopLevelAncestorSaid : Prop := fnFrameOfIsTheTopLevelAncestorRow.holds Try.pinned (OpenSpec.ofChange fnFrameOfIsTheTopLevelAncestorSpec)

/-- ITS FALSE NEIGHBOUR: 'it returns false'. Refute it at one input. -/
def fnFrameOfIsTheTopLevelAncestorWrong : ChangeSpec := { name := "fnFrameOfIsTheTopLevelAncestor", fn := fun _ => fun
  | [d1, d2, d3, d4, d5, d6, d7, d8, d9] => { results := [.lit (.bool false)], args := [d1, d2, d3, d4, d5, d6, d7, d8, d9] }
  | _ => none }
def FnFrameOfIsTheTopLevelAncestorWrongFalsely : Prop := fnFrameOfIsTheTopLevelAncestorRow.holds Try.pinned (OpenSpec.ofChange fnFrameOfIsTheTopLevelAncestorWrong)

end Rows
end Go.Proofs.Qxb6617836a
