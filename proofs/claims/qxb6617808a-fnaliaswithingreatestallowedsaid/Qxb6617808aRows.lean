/-
  No cell of these rows narrows 'for every input' (looked for: loops, veiled, ifaces, maps, wideKeys, modest, calm, conditions, laid).
  DERIVED. THE GIVEN ROWS OF THIS SEAT. 3 by the template 'for every input the law returns true; each argument reads behind the call as it read before'; 0 by the template 'total and deterministic' (their statements: Qxb6617808aTotals.lean).
  GIVEN WITH THE SEED: the statements are not yours to turn. If you find one false, say at which input.
  Laid BY PROGRAM, IN A SANDBOX (cutbox-rows.mjs): the forced cells as the released guide's own fill.sh prints them over the translation 46058ec52add0926… (all of the seat's roots in one cut). By AI agents, Wed Nov 11 2026. No macro, syntax, notation, axiom, sorry.
-/
import Derived.Test.Qxb6617808aChecked
import GoSem.Claim
import GoSem.ClaimJoined
import GoSem.ClaimMapViews
import Derived.JoinedTies
import Derived.KernelRfl
namespace Go.Proofs.Qxb6617808a
/- THE CELL 'sum', in the pinned program and in every row, IS THE sha256 OF THE DUMP (.gsa) THAT Qxb6617808aProg.lean LOADS. Nothing in Lean hashes anything: it is a label: what it is worth is what the hold of that sum in a sandbox is worth. -/
noncomputable def Try.pinned : Pinned := { name := "qxb6617808a", sum := "46058ec52add0926f2a74c07a150be389dd67a28cd2ad37a2d1a1cdacd2109b4", checked := Try.checked }
namespace Rows
def none {H : Type} : Left H := { results := [], args := [] }

/-- 'zzlaws_root_b1.FnGlobMatchesPlacement': WHATEVER THE INPUT: true; the input reads as it did. -/
def fnGlobMatchesPlacementSpec : ChangeSpec := { name := "fnGlobMatchesPlacement", fn := fun _ => fun
  | [d1, d2] => { results := [.lit (.bool true)], args := [d1, d2] }
  | _ => none }
def fnGlobMatchesPlacementRow : OpenClaim := { program := "qxb6617808a", sum := "46058ec52add0926f2a74c07a150be389dd67a28cd2ad37a2d1a1cdacd2109b4", func := "example.com/rolewarden/rolewarden/zzlaws_root_b1.FnGlobMatchesPlacement", spec := "fnGlobMatchesPlacement", inPlace := ["internal/bytealg.IndexByteString", "internal/bytealg.IndexString"], named := ["internal/bytealg.MaxLen"], apart := false }
def FnGlobMatchesPlacementSaid : Prop := fnGlobMatchesPlacementRow.holds Try.pinned (OpenSpec.ofChange fnGlobMatchesPlacementSpec)

/-- ITS FALSE NEIGHBOUR: 'it returns false'. Refute it at one input. -/
def fnGlobMatchesPlacementWrong : ChangeSpec := { name := "fnGlobMatchesPlacement", fn := fun _ => fun
  | [d1, d2] => { results := [.lit (.bool false)], args := [d1, d2] }
  | _ => none }
def FnGlobMatchesPlacementWrongFalsely : Prop := fnGlobMatchesPlacementRow.holds Try.pinned (OpenSpec.ofChange fnGlobMatchesPlacementWrong)

/-- 'zzlaws_root_b1.FnGlobAcceptsFilledStars': WHATEVER THE INPUT: true; the input reads as it did. -/
def fnGlobAcceptsFilledStarsSpec : ChangeSpec := { name := "fnGlobAcceptsFilledStars", fn := fun _ => fun
  | [d1, d2] => { results := [.lit (.bool true)], args := [d1, d2] }
  | _ => none }
def fnGlobAcceptsFilledStarsRow : OpenClaim := { program := "qxb6617808a", sum := "46058ec52add0926f2a74c07a150be389dd67a28cd2ad37a2d1a1cdacd2109b4", func := "example.com/rolewarden/rolewarden/zzlaws_root_b1.FnGlobAcceptsFilledStars", spec := "fnGlobAcceptsFilledStars", inPlace := ["internal/bytealg.IndexByteString", "internal/bytealg.IndexString"], named := ["internal/bytealg.MaxLen"], apart := false }
def FnGlobAcceptsFilledStarsSaid : Prop := fnGlobAcceptsFilledStarsRow.holds Try.pinned (OpenSpec.ofChange fnGlobAcceptsFilledStarsSpec)

/-- ITS FALSE NEIGHBOUR: 'it returns false'. Refute it at one input. -/
def fnGlobAcceptsFilledStarsWrong : ChangeSpec := { name := "fnGlobAcceptsFilledStars", fn := fun _ => fun
  | [d1, d2] => { results := [.lit (.bool false)], args := [d1, d2] }
  | _ => none }
def FnGlobAcceptsFilledStarsWrongFalsely : Prop := fnGlobAcceptsFilledStarsRow.holds Try.pinned (OpenSpec.ofChange fnGlobAcceptsFilledStarsWrong)

/-- 'zzlaws_root_b1.FnAliasWithinGreatestAllowed': WHATEVER THE INPUT: true; the input reads as it did. -/
def fnAliasWithinGreatestAllowedSpec : ChangeSpec := { name := "fnAliasWithinGreatestAllowed", fn := fun _ => fun
  | [d1, d2] => { results := [.lit (.bool true)], args := [d1, d2] }
  | _ => none }
def fnAliasWithinGreatestAllowedRow : OpenClaim := { program := "qxb6617808a", sum := "46058ec52add0926f2a74c07a150be389dd67a28cd2ad37a2d1a1cdacd2109b4", func := "example.com/rolewarden/rolewarden/zzlaws_root_b1.FnAliasWithinGreatestAllowed", spec := "fnAliasWithinGreatestAllowed", apart := false }
def FnAliasWithinGreatestAllowedSaid : Prop := fnAliasWithinGreatestAllowedRow.holds Try.pinned (OpenSpec.ofChange fnAliasWithinGreatestAllowedSpec)

/-- ITS FALSE NEIGHBOUR: 'it returns false'. Refute it at one input. -/
def fnAliasWithinGreatestAllowedWrong : ChangeSpec := { name := "fnAliasWithinGreatestAllowed", fn := fun _ => fun
  | [d1, d2] => { results := [.lit (.bool false)], args := [d1, d2] }
  | _ => none }
def FnAliasWithinGreatestAllowedWrongFalsely : Prop := fnAliasWithinGreatestAllowedRow.holds Try.pinned (OpenSpec.ofChange fnAliasWithinGreatestAllowedWrong)

end Rows
end Go.Proofs.Qxb6617808a
