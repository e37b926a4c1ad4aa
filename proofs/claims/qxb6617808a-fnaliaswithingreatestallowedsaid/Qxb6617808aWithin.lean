import Derived.Test.Qxb6617808aRows
import Derived.Test.Qxb6617808aLaw
import Derived.WalkKit
import Derived.WalkSpells
import Derived.WalkLawsBesides
import Derived.Laws.FloatArith
namespace Go.Proofs.Qxb6617808a
open Go.RowKit

/-- The box of the struct. -/
def bx (d a : Int) : Obj := .cells #[.int .i64 d, .int .i64 a] 33

theorem fl_of (n : Nat) : floatOfInt .f64 (n : Int) = Dbl.fl n := by
  unfold floatOfInt FloatKind.nearest FloatKind.encode Dbl.fl
  have h : decide ((n : Int) < 0) = false := by simp
  rw [h, Int.natAbs_natCast]
  rfl

set_option maxRecDepth 100000 in
set_option maxHeartbeats 400000 in
theorem within_true (d a : Int) (w : World) (h : a ≤ 100 ∨ d ≤ 1000) :
    Calls Try.prog 15 #[.agg #[.int .i64 d, .int .i64 a]] w fun e w' => e = .returned (.bool true) ∧ w' = w.alloc (bx d a) := by
  by_cases c : a ≤ 100
  · go_enter Try.func15, Try.ntmps15
    go_wp2
    go_ret
    exact ⟨rfl, rfl⟩
  · have c2 : d ≤ 1000 := by omega
    clear h
    go_enter Try.func15, Try.ntmps15
    go_wp2
    go_ret
    exact ⟨rfl, rfl⟩

/-- The walk behind the early yes, at or below 400,000. -/
theorem walk_low (D A : Int) (w : World) (r : Nat) (b : Bool) (hb1 : decide (A ≤ 100) = false) (hb2 : decide (D ≤ 1000) = false) (hb3 : decide (4000000 ≤ D) = false) (hb4 : decide (400000 < D) = false)
    (hq : ∀ w, (binOp .quo 37 (.float .f64 (floatOfInt .f64 A)) (.float .f64 (floatOfInt .f64 D))).run Try.prog w = .ok (.float .f64 r) w)
    (hl : Hid ((FloatKind.f64.format.order r 4607092346807469998 == some Ordering.lt || FloatKind.f64.format.order r 4607092346807469998 == some Ordering.eq) = b)) :
    Calls Try.prog 15 #[.agg #[.int .i64 D, .int .i64 A]] w fun e w' => e = .returned (.bool b) ∧ w' = w.alloc (bx D A) := by
  go_enter Try.func15, Try.ntmps15
  go_wp2
  go_ret
  exact ⟨congrArg (fun b => Ending.returned (Value.bool b)) hl.out, rfl⟩

theorem walk_high (D A : Int) (w : World) (r : Nat) (b : Bool) (hb1 : decide (A ≤ 100) = false) (hb2 : decide (D ≤ 1000) = false) (hb3 : decide (4000000 ≤ D) = true)
    (hq : ∀ w, (binOp .quo 37 (.float .f64 (floatOfInt .f64 A)) (.float .f64 (floatOfInt .f64 D))).run Try.prog w = .ok (.float .f64 r) w)
    (hl : Hid ((FloatKind.f64.format.order r 4591870180066957722 == some Ordering.lt || FloatKind.f64.format.order r 4591870180066957722 == some Ordering.eq) = b)) :
    Calls Try.prog 15 #[.agg #[.int .i64 D, .int .i64 A]] w fun e w' => e = .returned (.bool b) ∧ w' = w.alloc (bx D A) := by
  go_enter Try.func15, Try.ntmps15
  go_wp2
  go_ret
  exact ⟨congrArg (fun b => Ending.returned (Value.bool b)) hl.out, rfl⟩

theorem walk_slope (D A x : Int) (w : World) (q p sh r : Nat) (b : Bool) (hb1 : decide (A ≤ 100) = false) (hb2 : decide (D ≤ 1000) = false) (hb3 : decide (4000000 ≤ D) = false) (hb4 : decide (400000 < D) = true)
    (hx : wrap64 (D - 400000) = x)
    (h1 : ∀ w, (binOp .quo 37 (.float .f64 (floatOfInt .f64 x)) (.float .f64 4704985352480227328)).run Try.prog w = .ok (.float .f64 q) w)
    (h2 : ∀ w, (binOp .mul 37 (.float .f64 4606191626881995899) (.float .f64 q)).run Try.prog w = .ok (.float .f64 p) w)
    (h3 : ∀ w, (binOp .sub 37 (.float .f64 4607092346807469998) (.float .f64 p)).run Try.prog w = .ok (.float .f64 sh) w)
    (hq : ∀ w, (binOp .quo 37 (.float .f64 (floatOfInt .f64 A)) (.float .f64 (floatOfInt .f64 D))).run Try.prog w = .ok (.float .f64 r) w)
    (hl : Hid ((FloatKind.f64.format.order r sh == some Ordering.lt || FloatKind.f64.format.order r sh == some Ordering.eq) = b)) :
    Calls Try.prog 15 #[.agg #[.int .i64 D, .int .i64 A]] w fun e w' => e = .returned (.bool b) ∧ w' = w.alloc (bx D A) := by
  go_enter Try.func15, Try.ntmps15
  go_wp2
  go_ret
  exact ⟨congrArg (fun b => Ending.returned (Value.bool b)) hl.out, rfl⟩

theorem int_of (n : Int) (h : 0 ≤ n) : ∃ m : Nat, n = m := ⟨n.toNat, by omega⟩

/-- WHAT 'within' ANSWERS, whatever the counts. -/
theorem within_low (d a : Nat) (w : World) (h1 : 1000 < d) (h2 : d ≤ 400000) (a1 : 100 < a) (a2 : a ≤ 9223372036854775807) :
    Calls Try.prog 15 #[.agg #[.int .i64 d, .int .i64 a]] w fun e w' => e = .returned (.bool (decide (100 * a ≤ 99 * d))) ∧ w' = w.alloc (bx d a) := by
  obtain ⟨r, hr, hf, hiff⟩ := Dbl.low_share d a h1 h2 (by omega) a2
  refine walk_low d a w r _ (by rw [decide_eq_false_iff_not]; omega) (by rw [decide_eq_false_iff_not]; omega) (by rw [decide_eq_false_iff_not]; omega) (by rw [decide_eq_false_iff_not]; omega)
    (fun w => run_float_arith w .quo 37 .f64 _ _ r (by rw [fl_of, fl_of]; exact hr)) ?_
  exact (Dbl.leq_fin r Dbl.c99 hf Dbl.c99_fin).trans (decide_eq_decide.2 hiff)

theorem within_high (d a : Nat) (w : World) (h1 : 4000000 ≤ d) (h2 : d ≤ 281474976710656) (a1 : 100 < a) (a2 : a ≤ 9223372036854775807) :
    Calls Try.prog 15 #[.agg #[.int .i64 d, .int .i64 a]] w fun e w' => e = .returned (.bool (decide (10 * a ≤ d))) ∧ w' = w.alloc (bx d a) := by
  obtain ⟨r, hr, hf, hiff⟩ := Dbl.high_share d a h1 h2 (by omega) a2
  refine walk_high d a w r _ (by rw [decide_eq_false_iff_not]; omega) (by rw [decide_eq_false_iff_not]; omega) (by rw [decide_eq_true_iff]; omega)
    (fun w => run_float_arith w .quo 37 .f64 _ _ r (by rw [fl_of, fl_of]; exact hr)) ?_
  exact (Dbl.leq_fin r Dbl.c10 hf Dbl.c10_fin).trans (decide_eq_decide.2 hiff)

theorem within_slope (d a M : Nat) (w : World) (h1 : 400000 < d) (h2 : d < 4000000) (a1 : 100 < a) (a2 : a ≤ 9223372036854775807) (hM : M + 89 * d = 392000000) :
    ∃ b : Bool, (a * 360000000 + 5 ≤ d * M → b = true) ∧ (d * M + 5 ≤ a * 360000000 → b = false) ∧
    Calls Try.prog 15 #[.agg #[.int .i64 d, .int .i64 a]] w fun e w' => e = .returned (.bool b) ∧ w' = w.alloc (bx d a) := by
  obtain ⟨q, p, sh, r, e1, e2, e3, hf, e4, hf', lo, hi⟩ := Dbl.slope d a h1 h2 (by omega) a2 M hM
  refine ⟨decide (r ≤ sh), fun h => decide_eq_true (lo h), fun h => decide_eq_false (Nat.not_le_of_lt (hi h)), ?_⟩
  refine walk_slope d a ((d - 400000 : Nat) : Int) w q p sh r _ (by rw [decide_eq_false_iff_not]; omega) (by rw [decide_eq_false_iff_not]; omega) (by rw [decide_eq_false_iff_not]; omega) (by rw [decide_eq_true_iff]; omega)
    (by unfold wrap64; omega) (fun w => run_float_arith w .quo 37 .f64 _ _ q (by rw [fl_of]; exact e1)) (fun w => run_float_arith w .mul 37 .f64 _ _ p e2) (fun w => run_float_arith w .sub 37 .f64 _ _ sh e3)
    (fun w => run_float_arith w .quo 37 .f64 _ _ r (by rw [fl_of, fl_of]; exact e4)) ?_
  exact Dbl.leq_fin r sh hf' hf
end Go.Proofs.Qxb6617808a
