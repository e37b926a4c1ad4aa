/-
  No cell of these rows narrows 'for every input' (looked for: loops, veiled, ifaces, maps, wideKeys, modest, calm, conditions, laid).
  DERIVED. THE GIVEN ROWS OF THIS SEAT. 2 by the template 'for every input the law returns true; each argument reads behind the call as it read before'; 0 by the template 'total and deterministic' (their statements: Qxb6616981aTotals.lean).
  GIVEN WITH THE SEED: the statements are not yours to turn. If you find one false, say at which input.
  Laid BY PROGRAM, IN A SANDBOX (cutbox-rows.mjs): the forced cells as the released guide's own fill.sh prints them over the translation cab0861c682e5f99… (all of the seat's roots in one cut). By AI agents, Wed Nov 11 2026. No macro, syntax, notation, axiom, sorry.
-/
import Derived.Test.Qxb6616981aChecked
import GoSem.Claim
import GoSem.ClaimJoined
import GoSem.ClaimMapViews
import Derived.JoinedTies
import Derived.KernelRfl
namespace Go.Proofs.Qxb6616981a
/- THE CELL 'sum', in the pinned program and in every row, IS THE sha256 OF THE DUMP (.gsa) THAT Qxb6616981aProg.lean LOADS. Nothing in Lean hashes anything: it is a label: what it is worth is what the hold of that sum in a sandbox is worth. -/
noncomputable def Try.pinned : Pinned := { name := "qxb6616981a", sum := "cab0861c682e5f990b837094927cce40b4bee2692cedf2c92a6f9e4b208a797b", checked := Try.checked }
namespace Rows
def none {H : Type} : Left H := { results := [], args := [] }

/-- 'zzlaws_server_b1.FnLetInAllThatFitGoInAndBooksBalance': WHATEVER THE INPUT: true; the input reads as it did. -/
def fnLetInAllThatFitGoInAndBooksBalanceSpec : ChangeSpec := { name := "fnLetInAllThatFitGoInAndBooksBalance", fn := fun _ => fun
  | [d1, d2, d3, d4, d5, d6, d7, d8] => { results := [.lit (.bool true)], args := [d1, d2, d3, d4, d5, d6, d7, d8] }
  | _ => none }
def fnLetInAllThatFitGoInAndBooksBalanceRow : OpenClaim := { program := "qxb6616981a", sum := "cab0861c682e5f990b837094927cce40b4bee2692cedf2c92a6f9e4b208a797b", func := "example.com/ringbell/ringbell/zzlaws_server_b1.FnLetInAllThatFitGoInAndBooksBalance", spec := "fnLetInAllThatFitGoInAndBooksBalance", unfollowed := true, recurses := true, apart := false }
def FnLetInAllThatFitGoInAndBooksBalanceSaid : Prop := fnLetInAllThatFitGoInAndBooksBalanceRow.holds Try.pinned (OpenSpec.ofChange fnLetInAllThatFitGoInAndBooksBalanceSpec)

/-- ITS FALSE NEIGHBOUR: 'it returns false'. Refute it at one input. -/
def fnLetInAllThatFitGoInAndBooksBalanceWrong : ChangeSpec := { name := "fnLetInAllThatFitGoInAndBooksBalance", fn := fun _ => fun
  | [d1, d2, d3, d4, d5, d6, d7, d8] => { results := [.lit (.bool false)], args := [d1, d2, d3, d4, d5, d6, d7, d8] }
  | _ => none }
def FnLetInAllThatFitGoInAndBooksBalanceWrongFalsely : Prop := fnLetInAllThatFitGoInAndBooksBalanceRow.holds Try.pinned (OpenSpec.ofChange fnLetInAllThatFitGoInAndBooksBalanceWrong)

/-- 'zzlaws_server_b1.FnLetInLeavesNoLoneFittingPostAndPassesTheOldestOnce': WHATEVER THE INPUT: true; the input reads as it did. -/
def fnLetInLeavesNoLoneFittingPostAndPassesTheOldestOnceSpec : ChangeSpec := { name := "fnLetInLeavesNoLoneFittingPostAndPassesTheOldestOnce", fn := fun _ => fun
  | [d1, d2, d3, d4, d5, d6, d7, d8] => { results := [.lit (.bool true)], args := [d1, d2, d3, d4, d5, d6, d7, d8] }
  | _ => none }
def fnLetInLeavesNoLoneFittingPostAndPassesTheOldestOnceRow : OpenClaim := { program := "qxb6616981a", sum := "cab0861c682e5f990b837094927cce40b4bee2692cedf2c92a6f9e4b208a797b", func := "example.com/ringbell/ringbell/zzlaws_server_b1.FnLetInLeavesNoLoneFittingPostAndPassesTheOldestOnce", spec := "fnLetInLeavesNoLoneFittingPostAndPassesTheOldestOnce", unfollowed := true, recurses := true, apart := false }
def FnLetInLeavesNoLoneFittingPostAndPassesTheOldestOnceSaid : Prop := fnLetInLeavesNoLoneFittingPostAndPassesTheOldestOnceRow.holds Try.pinned (OpenSpec.ofChange fnLetInLeavesNoLoneFittingPostAndPassesTheOldestOnceSpec)

/-- ITS FALSE NEIGHBOUR: 'it returns false'. Refute it at one input. -/
def fnLetInLeavesNoLoneFittingPostAndPassesTheOldestOnceWrong : ChangeSpec := { name := "fnLetInLeavesNoLoneFittingPostAndPassesTheOldestOnce", fn := fun _ => fun
  | [d1, d2, d3, d4, d5, d6, d7, d8] => { results := [.lit (.bool false)], args := [d1, d2, d3, d4, d5, d6, d7, d8] }
  | _ => none }
def FnLetInLeavesNoLoneFittingPostAndPassesTheOldestOnceWrongFalsely : Prop := fnLetInLeavesNoLoneFittingPostAndPassesTheOldestOnceRow.holds Try.pinned (OpenSpec.ofChange fnLetInLeavesNoLoneFittingPostAndPassesTheOldestOnceWrong)

end Rows
end Go.Proofs.Qxb6616981a
