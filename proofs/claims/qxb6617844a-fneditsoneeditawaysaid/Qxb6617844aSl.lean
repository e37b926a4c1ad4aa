import Derived.Test.Qxb6617844aRows
import Derived.WalkKit
import Derived.WalkSpells
import Derived.WalkLawsBesides
namespace Go.Proofs.Qxb6617844a
open Go.RowKit

/-- A slice of runes that was there: its first n elements are f 0, f 1, .. -/
def Sl (w : World) (a : Option Addr) (n : Nat) (f : Nat → Int) : Prop :=
  0 < n → ∃ b o, a = some ⟨b, o, none⟩ ∧ b < w.heap.size ∧ ∀ j, j < n → w.cell? ⟨b, o + j, none⟩ = some (.int .i32 (f j))

theorem Sl.below {w w' : World} {a : Option Addr} {n : Nat} {f : Nat → Int} (h : Sl w a n f) (hb : Below w.heap.size w w') : Sl w' a n f := by
  intro hn
  obtain ⟨b, o, h1, h2, h3⟩ := h hn
  exact ⟨b, o, h1, Nat.lt_of_lt_of_le h2 hb.size, fun j hj => (hb.cell (p := ⟨b, o + j, none⟩) h2).trans (h3 j hj)⟩

def upd (f : Nat → Int) (k : Nat) (v : Int) : Nat → Int := fun j => if j = k then v else f j

end Go.Proofs.Qxb6617844a
