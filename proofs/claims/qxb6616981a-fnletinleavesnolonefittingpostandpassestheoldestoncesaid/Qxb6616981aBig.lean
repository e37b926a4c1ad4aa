/-
  Both laws at a slice longer than they look at: true at once.
-/
import Derived.Test.Qxb6616981aBase
namespace Go.Proofs.Qxb6616981a
open Go.RowKit
set_option maxRecDepth 100000
set_option maxHeartbeats 4000000

theorem bytes5_big (x0 x1 x2 x3 x4 b6 b7 : Value) (a : Option Addr) (n c : Nat) (w : World) (ht : decide ((1048576 : Int) < (n : Int)) = true) :
    Calls Try.prog 5 #[x0, x1, x2, x3, x4, .slice a n c, b6, b7] w fun e w' => e = .returned (.bool false) ∧ w' = w := by
  go_enter Try.func5, Try.ntmps5
  go_wp2
  go_ret
  exact ⟨rfl, rfl⟩
theorem bytes12_big (x0 x1 x2 x3 x4 b6 b7 : Value) (a : Option Addr) (n c : Nat) (w : World) (ht : decide ((1048576 : Int) < (n : Int)) = true) :
    Calls Try.prog 12 #[x0, x1, x2, x3, x4, .slice a n c, b6, b7] w fun e w' => e = .returned (.bool false) ∧ w' = w := by
  go_enter Try.func12, Try.ntmps12
  go_wp2
  go_ret
  exact ⟨rfl, rfl⟩

theorem all_big (room lroom small held lheld : Int) (a : Option Addr) (n c : Nat) (f1 f2 : Bool) (w : World) (hn : 1048576 < n) :
    Calls Try.prog 3 #[.int .i64 room, .int .i64 lroom, .int .i64 small, .int .i64 held, .int .i64 lheld, .slice a n c, .bool f1, .bool f2] w fun e w' => e = .returned (.bool true) ∧ Below w.heap.size w w' := by
  have C5' : Hid (Calls Try.prog 5 #[.int .i64 room, .int .i64 lroom, .int .i64 small, .int .i64 held, .int .i64 lheld, .slice a n c, .bool f1, .bool f2] w fun e w' => e = .returned (.bool false) ∧ w' = w) := bytes5_big _ _ _ _ _ _ _ a n c w (by rw [decide_eq_true_eq]; omega)
  clear hn
  go_enter Try.func3, Try.ntmps3
  go_wp2_with fail
  refine C5'.out.mono ?_
  rintro e w' ⟨rfl, rfl⟩
  go_wp2
  go_ret
  exact ⟨rfl, Below.refl _ _⟩
theorem lone_big (room lroom small held lheld : Int) (a : Option Addr) (n c : Nat) (f1 f2 : Bool) (w : World) (hn : 1048576 < n) :
    Calls Try.prog 4 #[.int .i64 room, .int .i64 lroom, .int .i64 small, .int .i64 held, .int .i64 lheld, .slice a n c, .bool f1, .bool f2] w fun e w' => e = .returned (.bool true) ∧ Below w.heap.size w w' := by
  have C5' : Hid (Calls Try.prog 12 #[.int .i64 room, .int .i64 lroom, .int .i64 small, .int .i64 held, .int .i64 lheld, .slice a n c, .bool f1, .bool f2] w fun e w' => e = .returned (.bool false) ∧ w' = w) := bytes12_big _ _ _ _ _ _ _ a n c w (by rw [decide_eq_true_eq]; omega)
  clear hn
  go_enter Try.func4, Try.ntmps4
  go_wp2_with fail
  refine C5'.out.mono ?_
  rintro e w' ⟨rfl, rfl⟩
  go_wp2
  go_ret
  exact ⟨rfl, Below.refl _ _⟩
end Go.Proofs.Qxb6616981a
