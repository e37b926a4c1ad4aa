import Derived.Test.Qxb6617844aOne
import Derived.Test.Qxb6617844aTwo
import Derived.Test.Qxb6617844aThree
import Derived.Test.Qxb6617844aDrop
namespace Go.Proofs.Qxb6617844a
open Go.RowKit

/-! The short ways: whatever the guards refuse answers true at once. -/
theorem no_long (a0 : Option Addr) (n cap0 : Nat) (o p r : Int) (w : World) (hn : n ≤ 9223372036854775807) (h : 1048576 < n) :
    Calls Try.prog 4 #[.slice a0 n cap0, .int .u8 o, .int .i64 p, .int .i32 r] w fun e w' => e = .returned (.bool true) ∧ Below w.heap.size w w' := by
  go_enter Try.func4, Try.ntmps4
  go_wp2
  go_ret
  exact ⟨rfl, Below.refl _ _⟩

theorem no_long2 (a0 : Option Addr) (n cap0 : Nat) (o p r : Int) (w : World) (h0 : n ≤ 1048576) (h : 4096 < n) :
    Calls Try.prog 4 #[.slice a0 n cap0, .int .u8 o, .int .i64 p, .int .i32 r] w fun e w' => e = .returned (.bool true) ∧ Below w.heap.size w w' := by
  go_enter Try.func4, Try.ntmps4
  go_wp2
  go_ret
  exact ⟨rfl, Below.refl _ _⟩

theorem no_op (a0 : Option Addr) (n cap0 : Nat) (o p r : Int) (w : World) (h0 : n ≤ 4096) (h : 3 < o) :
    Calls Try.prog 4 #[.slice a0 n cap0, .int .u8 o, .int .i64 p, .int .i32 r] w fun e w' => e = .returned (.bool true) ∧ Below w.heap.size w w' := by
  go_enter Try.func4, Try.ntmps4
  go_wp2
  go_ret
  exact ⟨rfl, Below.refl _ _⟩

theorem no_neg (a0 : Option Addr) (n cap0 : Nat) (o p r : Int) (w : World) (h0 : n ≤ 4096) (h1 : o ≤ 3) (h : p < 0) :
    Calls Try.prog 4 #[.slice a0 n cap0, .int .u8 o, .int .i64 p, .int .i32 r] w fun e w' => e = .returned (.bool true) ∧ Below w.heap.size w w' := by
  go_enter Try.func4, Try.ntmps4
  go_wp2
  go_ret
  exact ⟨rfl, Below.refl _ _⟩

theorem no_far (a0 : Option Addr) (n cap0 : Nat) (o p r : Int) (w : World) (h0 : n ≤ 4096) (h1 : o ≤ 3) (h2 : 0 ≤ p) (h : (n : Int) < p) :
    Calls Try.prog 4 #[.slice a0 n cap0, .int .u8 o, .int .i64 p, .int .i32 r] w fun e w' => e = .returned (.bool true) ∧ Below w.heap.size w w' := by
  go_enter Try.func4, Try.ntmps4
  go_wp2
  go_ret
  exact ⟨rfl, Below.refl _ _⟩

theorem no_end (a0 : Option Addr) (n cap0 : Nat) (o p r : Int) (w : World) (h0 : n ≤ 4096) (h1 : o ≤ 3) (h2 : 0 ≤ p) (h3 : p ≤ n) (h4 : (o != 0) = true) (h : (n : Int) ≤ p) :
    Calls Try.prog 4 #[.slice a0 n cap0, .int .u8 o, .int .i64 p, .int .i32 r] w fun e w' => e = .returned (.bool true) ∧ Below w.heap.size w w' := by
  go_enter Try.func4, Try.ntmps4
  go_wp2
  go_ret
  exact ⟨rfl, Below.refl _ _⟩

theorem no_pair (a0 : Option Addr) (n cap0 : Nat) (o p r : Int) (w : World) (h0 : n ≤ 4096) (h2 : 0 ≤ p) (_h3 : p ≤ n) (h5 : p < n) (h : (n : Int) ≤ p + 1) (ho : o = 3) :
    Calls Try.prog 4 #[.slice a0 n cap0, .int .u8 o, .int .i64 p, .int .i32 r] w fun e w' => e = .returned (.bool true) ∧ Below w.heap.size w w' := by
  subst ho
  go_enter Try.func4, Try.ntmps4
  go_wp2
  go_ret
  exact ⟨rfl, Below.refl _ _⟩

end Go.Proofs.Qxb6617844a
