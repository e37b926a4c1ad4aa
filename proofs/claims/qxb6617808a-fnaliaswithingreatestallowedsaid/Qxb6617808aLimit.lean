import Derived.Test.Qxb6617808aWithin
namespace Go.Proofs.Qxb6617808a
open Go.RowKit

theorem zz_of (d a : Int) (b : Bool) (w : World) (h : Calls Try.prog 15 #[.agg #[.int .i64 d, .int .i64 a]] w fun e w' => e = .returned (.bool b) ∧ w' = w.alloc (bx d a)) :
    Calls Try.prog 11 #[.int .i64 d, .int .i64 a] w fun e w' => e = .returned (.bool b) ∧ w' = w.alloc (bx d a) := by
  have H : Hid (Calls Try.prog 15 #[.agg #[.int .i64 d, .int .i64 a]] w fun e w' => e = .returned (.bool b) ∧ w' = w.alloc (bx d a)) := h
  clear h
  go_enter Try.func11, Try.ntmps11
  go_wp2_with fail
  refine H.out.mono ?_
  rintro e w' ⟨rfl, rfl⟩
  go_wp2
  go_ret
  exact ⟨rfl, rfl⟩

theorem lim_open (d : Int) (w : World) (h : decide (d ≤ 1000) = true) :
    Calls Try.prog 10 #[.int .i64 d] w fun e w' => e = .returned (.tuple #[.int .i64 0, .bool true, .bool false]) ∧ w' = w := by
  go_enter Try.func10, Try.ntmps10
  go_wp2
  go_ret3
  exact ⟨rfl, rfl⟩

theorem lim_low (d y : Int) (w : World) (h : decide (d ≤ 1000) = false) (h2 : decide (d ≤ 400000) = true) (e1 : wrap64 (99 * d) = y) :
    Calls Try.prog 10 #[.int .i64 d] w fun e w' => e = .returned (.tuple #[.int .i64 (wrap64 (y.tdiv 100)), .bool false, .bool false]) ∧ w' = w := by
  go_enter Try.func10, Try.ntmps10
  go_wp2
  go_ret3
  exact ⟨rfl, rfl⟩

theorem lim_high (d : Int) (w : World) (h : decide (d ≤ 1000) = false) (h2 : decide (d ≤ 400000) = false) (h3 : decide (4000000 ≤ d) = true) :
    Calls Try.prog 10 #[.int .i64 d] w fun e w' => e = .returned (.tuple #[.int .i64 (wrap64 (d.tdiv 10)), .bool false, .bool false]) ∧ w' = w := by
  go_enter Try.func10, Try.ntmps10
  go_wp2
  go_ret3
  exact ⟨rfl, rfl⟩

theorem lim_slope (d y z n l m : Int) (w : World) (h : decide (d ≤ 1000) = false) (h2 : decide (d ≤ 400000) = false) (h3 : decide (4000000 ≤ d) = false)
    (e1 : wrap64 (89 * d) = y) (e2 : wrap64 (392000000 - y) = z) (e3 : wrap64 (d * z) = n) (e4 : wrap64 (n.tdiv 360000000) = l) (e5 : n.tmod 360000000 = m) :
    Calls Try.prog 10 #[.int .i64 d] w fun e w' => e = .returned (.tuple #[.int .i64 l, .bool false, .bool (decide (m ≤ 4) || decide (359999996 ≤ m))]) ∧ w' = w := by
  go_enter Try.func10, Try.ntmps10
  go_wp2
  all_goals go_ret3
  all_goals exact ⟨rfl, rfl⟩

/-- WITHIN ITS THREE RANGES 'within' LETS BY JUST WHAT IS AT MOST THE LIMIT. -/
theorem zz_low (d : Nat) (a : Int) (w : World) (h1 : 1000 < d) (h2 : d ≤ 400000) (ha : a ≤ 9223372036854775807) :
    Calls Try.prog 11 #[.int .i64 d, .int .i64 a] w fun e w' => e = .returned (.bool (decide (a ≤ ((99 * d / 100 : Nat) : Int)))) ∧ w' = w.alloc (bx d a) := by
  by_cases c : a ≤ 100
  · rw [decide_eq_true (show a ≤ ((99 * d / 100 : Nat) : Int) by omega)]
    exact zz_of d a true w (within_true d a w (.inl c))
  · obtain ⟨n, rfl⟩ := int_of a (by omega)
    have e : decide (100 * n ≤ 99 * d) = decide ((n : Int) ≤ ((99 * d / 100 : Nat) : Int)) := decide_eq_decide.2 (by omega)
    rw [← e]
    exact zz_of d n _ w (within_low d n w h1 h2 (by omega) (by omega))

theorem zz_high (d : Nat) (a : Int) (w : World) (h1 : 4000000 ≤ d) (h2 : d ≤ 281474976710656) (ha : a ≤ 9223372036854775807) :
    Calls Try.prog 11 #[.int .i64 d, .int .i64 a] w fun e w' => e = .returned (.bool (decide (a ≤ ((d / 10 : Nat) : Int)))) ∧ w' = w.alloc (bx d a) := by
  by_cases c : a ≤ 100
  · rw [decide_eq_true (show a ≤ ((d / 10 : Nat) : Int) by omega)]
    exact zz_of d a true w (within_true d a w (.inl c))
  · obtain ⟨n, rfl⟩ := int_of a (by omega)
    have e : decide (10 * n ≤ d) = decide ((n : Int) ≤ ((d / 10 : Nat) : Int)) := decide_eq_decide.2 (by omega)
    rw [← e]
    exact zz_of d n _ w (within_high d n w h1 h2 (by omega) (by omega))

theorem zz_slope (d M L R : Nat) (a : Int) (w : World) (h1 : 400000 < d) (h2 : d < 4000000) (ha : a ≤ 9223372036854775807) (hM : M + 89 * d = 392000000)
    (hL : d * M = L * 360000000 + R) (r1 : 5 ≤ R) (r2 : R ≤ 359999995) (l1 : 100 ≤ L) :
    Calls Try.prog 11 #[.int .i64 d, .int .i64 a] w fun e w' => e = .returned (.bool (decide (a ≤ (L : Int)))) ∧ w' = w.alloc (bx d a) := by
  by_cases c : a ≤ 100
  · rw [decide_eq_true (show a ≤ (L : Int) by omega)]
    exact zz_of d a true w (within_true d a w (.inl c))
  · obtain ⟨n, rfl⟩ := int_of a (by omega)
    obtain ⟨b, lo, hi, H⟩ := within_slope d n M w h1 h2 (by omega) (by omega) hM
    rw [hL] at lo hi
    have e : b = decide ((n : Int) ≤ (L : Int)) := by
      by_cases hn : n ≤ L
      · rw [lo (by omega), decide_eq_true (by omega)]
      · rw [hi (by omega), decide_eq_false (by omega)]
    rw [← e]
    exact zz_of d n b w H

/-- THE LAW's OWN WALK, where there is a limit l. -/
theorem top_closed (d a l : Int) (w : World) (h0 : decide (281474976710656 < d) = false) (ha : a ≤ 9223372036854775807) (hl : l ≤ 9223372036854775806) (hl0 : 0 ≤ l)
    (L : ∀ w, Calls Try.prog 10 #[.int .i64 d] w fun e w' => e = .returned (.tuple #[.int .i64 l, .bool false, .bool false]) ∧ w' = w)
    (Z : ∀ (a : Int) w, a ≤ 9223372036854775807 → Calls Try.prog 11 #[.int .i64 d, .int .i64 a] w fun e w' => e = .returned (.bool (decide (a ≤ l))) ∧ w' = w.alloc (bx d a)) :
    Calls Try.prog 5 #[.int .i64 d, .int .i64 a] w fun e w' => e = .returned (.bool true) ∧ Grown w w' := by
  have HL : Hid (∀ w, Calls Try.prog 10 #[.int .i64 d] w fun e w' => e = .returned (.tuple #[.int .i64 l, .bool false, .bool false]) ∧ w' = w) := L
  have HZ1 : Hid (∀ w, Calls Try.prog 11 #[.int .i64 d, .int .i64 a] w fun e w' => e = .returned (.bool (decide (a ≤ l))) ∧ w' = w.alloc (bx d a)) := fun w => Z a w ha
  have HZ2 : Hid (∀ w, Calls Try.prog 11 #[.int .i64 d, .int .i64 l] w fun e w' => e = .returned (.bool true) ∧ w' = w.alloc (bx d l)) := fun w => by
    have := Z l w (by omega)
    rwa [decide_eq_true (Int.le_refl l)] at this
  have HZ3 : Hid (∀ w, Calls Try.prog 11 #[.int .i64 d, .int .i64 (l + 1)] w fun e w' => e = .returned (.bool false) ∧ w' = w.alloc (bx d (l + 1))) := fun w => by
    have := Z (l + 1) w (by omega)
    rwa [decide_eq_false (by omega)] at this
  have hw : wrap64 (l + 1) = l + 1 := by unfold wrap64; omega
  clear L Z ha hl hl0
  go_enter Try.func5, Try.ntmps5
  go_wp2_with fail
  refine (HL.out _).mono ?_
  rintro e w1 ⟨rfl, rfl⟩
  go_wp2_with fail
  refine (HZ1.out _).mono ?_
  rintro e w2 ⟨rfl, rfl⟩
  go_wp2_with fail
  refine (HZ2.out _).mono ?_
  rintro e w3 ⟨rfl, rfl⟩
  go_wp2_with fail
  refine (HZ3.out _).mono ?_
  rintro e w4 ⟨rfl, rfl⟩
  go_wp2
  go_ret
  exact ⟨by simp, (((Grown.refl _).alloc _ _).alloc _ _).alloc _ _⟩

theorem top_open (d a : Int) (w : World) (h0 : decide (281474976710656 < d) = false) (h1 : d ≤ 1000) :
    Calls Try.prog 5 #[.int .i64 d, .int .i64 a] w fun e w' => e = .returned (.bool true) ∧ Grown w w' := by
  have HL : Hid (∀ w, Calls Try.prog 10 #[.int .i64 d] w fun e w' => e = .returned (.tuple #[.int .i64 0, .bool true, .bool false]) ∧ w' = w) := fun w => lim_open d w (decide_eq_true h1)
  have HZ : Hid (∀ (a : Int) w, Calls Try.prog 11 #[.int .i64 d, .int .i64 a] w fun e w' => e = .returned (.bool true) ∧ w' = w.alloc (bx d a)) := fun a w => zz_of d a true w (within_true d a w (.inr h1))
  clear h1
  go_enter Try.func5, Try.ntmps5
  go_wp2_with fail
  refine (HL.out _).mono ?_
  rintro e w1 ⟨rfl, rfl⟩
  go_wp2_with fail
  refine (HZ.out a _).mono ?_
  rintro e w2 ⟨rfl, rfl⟩
  go_wp2_with (first | (go_at_call 11; refine (HZ.out _ _).mono ?_; rintro e w3 ⟨rfl, rfl⟩) | go_in)
  go_ret
  exact ⟨rfl, ((Grown.refl _).alloc _ _).alloc _ _⟩

theorem top_edge (d a l : Int) (w : World) (h0 : decide (281474976710656 < d) = false)
    (L : ∀ w, Calls Try.prog 10 #[.int .i64 d] w fun e w' => e = .returned (.tuple #[.int .i64 l, .bool false, .bool true]) ∧ w' = w) :
    Calls Try.prog 5 #[.int .i64 d, .int .i64 a] w fun e w' => e = .returned (.bool true) ∧ Grown w w' := by
  have HL : Hid (∀ w, Calls Try.prog 10 #[.int .i64 d] w fun e w' => e = .returned (.tuple #[.int .i64 l, .bool false, .bool true]) ∧ w' = w) := L
  clear L
  go_enter Try.func5, Try.ntmps5
  go_wp2_with fail
  refine (HL.out _).mono ?_
  rintro e w1 ⟨rfl, rfl⟩
  go_wp2
  go_ret
  exact ⟨rfl, Grown.refl _⟩

theorem top_far (d a : Int) (w : World) (h0 : decide (281474976710656 < d) = true) :
    Calls Try.prog 5 #[.int .i64 d, .int .i64 a] w fun e w' => e = .returned (.bool true) ∧ Grown w w' := by
  go_enter Try.func5, Try.ntmps5
  go_wp2
  go_ret
  exact ⟨rfl, Grown.refl _⟩
end Go.Proofs.Qxb6617808a
