/-
  The one case in which the exact quotient lies between two words: 99 k / 100 k, k up to 4,000: run by the kernel.
-/
import Ieee.Arith
namespace Go.Proofs.Qxb6617808a.Dbl
open Ieee

def fl (a : Nat) : Nat := double.nearest false a 0
def c99 : Nat := 4607092346807469998
def c10 : Nat := 4591870180066957722
def c89 : Nat := 4606191626881995899
def c36 : Nat := 4704985352480227328

def okR (o : Option Nat) : Bool := match o with
  | some r => decide (r ≤ c99)
  | none => false
theorem okR_some (r : Nat) : okR (some r) = decide (r ≤ c99) := rfl
def okAt (k : Nat) : Bool := okR (double.div (fl (99 * (k + 1))) (fl (100 * (k + 1))))

def okTo : Nat → Bool
  | 0 => true
  | k + 1 => okAt k && okTo k

set_option maxRecDepth 100000 in
theorem okTo_all : okTo 4000 = true := by decide +kernel

theorem okTo_at : ∀ n k, k < n → okTo n = true → okAt k = true := by
  intro n
  induction n with
  | zero => intro k h; omega
  | succ n ih =>
    intro k h ho
    unfold okTo at ho
    rw [Bool.and_eq_true] at ho
    by_cases e : k = n
    · rw [e]; exact ho.1
    · exact ih k (by omega) ho.2

end Go.Proofs.Qxb6617808a.Dbl
