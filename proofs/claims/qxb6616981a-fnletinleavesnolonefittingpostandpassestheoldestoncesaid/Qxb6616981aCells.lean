/-
  The lane's and the intake's small functions over cells: oldest, next, laneOf, fits, take, ZZheld.
-/
import Derived.Test.Qxb6616981aList
import Derived.Test.Qxb6616981aGrow
namespace Go.Proofs.Qxb6616981a
open Go.RowKit

set_option maxRecDepth 100000
set_option maxHeartbeats 4000000

theorem oldest_any (b o eb wb : Nat) (k : Int) (w : World) (hk : k ≠ 0) (h4 : w.cell? ⟨b, o + 4, none⟩ = some (.int .i64 k)) (h0 : w.cell? ⟨b, o, none⟩ = some (pt eb 0)) (h3 : w.cell? ⟨eb, 3, none⟩ = some (.iface 30 (pt wb 0))) :
    Calls Try.prog 27 #[pt b o] w fun e w' => e = .returned (pt wb 0) ∧ w' = w := by
  have HC : Hid (Calls Try.prog 21 #[pt b o] w fun e w' => e = .returned (pt eb 0) ∧ w' = w) := by
    have := front_any b o k _ w h4 h0
    rw [if_neg hk] at this
    exact this
  have has := assert30
  clear h4 h0 hk
  go_enter Try.func27, Try.ntmps27
  go_wp2_with fail
  refine HC.out.mono ?_
  rintro e w' ⟨rfl, rfl⟩
  go_wp2
  go_ret
  exact ⟨rfl, rfl⟩

theorem next_nil (b o c : Nat) (v : Option Addr) (w : World) (h5 : w.cell? ⟨b, o + 5, none⟩ = some (.slice v 0 c)) :
    Calls Try.prog 26 #[pt b o] w fun e w' => e = .returned (.pointer none) ∧ w' = w := by
  go_enter Try.func26, Try.ntmps26
  go_wp2
  go_ret
  exact ⟨rfl, rfl⟩

theorem next_old (b o c n wb : Nat) (v : Option Addr) (w : World) (hn : 0 < n) (h5 : w.cell? ⟨b, o + 5, none⟩ = some (.slice v n c)) (h6 : w.cell? ⟨b, o + 6, none⟩ = some (.bool true))
    (HC : Hid (Calls Try.prog 27 #[pt b o] w fun e w' => e = .returned (pt wb 0) ∧ w' = w)) :
    Calls Try.prog 26 #[pt b o] w fun e w' => e = .returned (pt wb 0) ∧ w' = w := by
  have hz : ((n : Int) == 0) = false := by rw [beq_eq_false_iff_ne]; omega
  go_enter Try.func26, Try.ntmps26
  go_wp2_with fail
  refine HC.out.mono ?_
  rintro e w' ⟨rfl, rfl⟩
  go_wp2
  go_ret
  exact ⟨rfl, rfl⟩

theorem next_head (b o c n wb g : Nat) (w : World) (hn : 0 < n) (h5 : w.cell? ⟨b, o + 5, none⟩ = some (.slice (some ⟨g, 0, none⟩) n c)) (h6 : w.cell? ⟨b, o + 6, none⟩ = some (.bool false))
    (hg : w.cell? ⟨g, 0, none⟩ = some (pt wb 0)) :
    Calls Try.prog 26 #[pt b o] w fun e w' => e = .returned (pt wb 0) ∧ w' = w := by
  have hz : ((n : Int) == 0) = false := by rw [beq_eq_false_iff_ne]; omega
  go_enter Try.func26, Try.ntmps26
  go_wp2
  go_ret
  exact ⟨rfl, rfl⟩

theorem laneOf_any (b : Nat) (s sm : Int) (w : World) (h2 : w.cell? ⟨b, 2, none⟩ = some (.int .i64 sm)) (t : Bool) (ht : decide (sm < s) = t) :
    Calls Try.prog 17 #[pt b 0, .int .i64 s] w fun e w' => e = .returned (pt b (if t then 14 else 7)) ∧ w' = w := by
  cases t with
  | true =>
    go_enter Try.func17, Try.ntmps17
    go_wp2
    go_ret
    exact ⟨rfl, rfl⟩
  | false =>
    go_enter Try.func17, Try.ntmps17
    go_wp2
    go_ret
    exact ⟨rfl, rfl⟩

theorem fits_any (b : Nat) (s room lroom sm held lheld : Int) (w : World) (c0 : w.cell? ⟨b, 0, none⟩ = some (.int .i64 room)) (c1 : w.cell? ⟨b, 1, none⟩ = some (.int .i64 lroom)) (c2 : w.cell? ⟨b, 2, none⟩ = some (.int .i64 sm))
    (c5 : w.cell? ⟨b, 5, none⟩ = some (.int .i64 held)) (c6 : w.cell? ⟨b, 6, none⟩ = some (.int .i64 lheld))
    (b1 : -1000000000000000000 ≤ held + s) (b2 : held + s ≤ 1000000000000000000) (b3 : -1000000000000000000 ≤ lheld + s) (b4 : lheld + s ≤ 1000000000000000000) :
    Calls Try.prog 28 #[pt b 0, .int .i64 s] w fun e w' => e = .returned (.bool (decide (held + s ≤ room) && (decide (s ≤ sm) || decide (lheld + s ≤ lroom)))) ∧ Hid (∃ nq, w' = w.drewN nq) := by
  obtain ⟨t1, ht1⟩ : ∃ t, decide (held + s ≤ room) = t := ⟨_, rfl⟩
  obtain ⟨t2, ht2⟩ : ∃ t, decide (s ≤ sm) = t := ⟨_, rfl⟩
  obtain ⟨t3, ht3⟩ : ∃ t, decide (lheld + s ≤ lroom) = t := ⟨_, rfl⟩
  rw [ht1, ht2, ht3]
  cases t1 with
  | false =>
    go_enter Try.func28, Try.ntmps28
    go_wp2
    go_quiet (fail)
    go_wp2
    go_ret
    exact ⟨rfl, _, rfl⟩
  | true =>
    cases t2 with
    | true =>
      go_enter Try.func28, Try.ntmps28
      go_wp2
      go_quiet (fail)
      go_wp2
      go_ret
      exact ⟨rfl, _, rfl⟩
    | false =>
      go_enter Try.func28, Try.ntmps28
      go_wp2
      go_quiet (fail)
      go_wp2
      go_ret
      exact ⟨rfl, _, rfl⟩

theorem take_any (b : Nat) (s sm held lheld : Int) (w : World) (c2 : w.cell? ⟨b, 2, none⟩ = some (.int .i64 sm))
    (c5 : w.cell? ⟨b, 5, none⟩ = some (.int .i64 held)) (c6 : w.cell? ⟨b, 6, none⟩ = some (.int .i64 lheld)) (f5 : w.frozen? ⟨b, 5, none⟩ = false) (f6 : w.frozen? ⟨b, 6, none⟩ = false)
    (b1 : -1000000000000000000 ≤ held + s) (b2 : held + s ≤ 1000000000000000000) (b3 : -1000000000000000000 ≤ lheld + s) (b4 : lheld + s ≤ 1000000000000000000) (t : Bool) (ht : decide (sm < s) = t) :
    Calls Try.prog 30 #[pt b 0, .int .i64 s] w fun e w' => e = .returned (.tuple #[]) ∧ w' = if t then (w.setCell ⟨b, 5, none⟩ (.int .i64 (held + s))).setCell ⟨b, 6, none⟩ (.int .i64 (lheld + s)) else w.setCell ⟨b, 5, none⟩ (.int .i64 (held + s)) := by
  cases t with
  | true =>
    go_enter Try.func30, Try.ntmps30
    go_wp2
    exact bodyPost_end (v := .tuple #[]) (by simp [results, Try.results30]) rfl ⟨rfl, rfl⟩
  | false =>
    go_enter Try.func30, Try.ntmps30
    go_wp2
    exact bodyPost_end (v := .tuple #[]) (by simp [results, Try.results30]) rfl ⟨rfl, rfl⟩

theorem held_any (b : Nat) (x y : Value) (w : World) (c5 : w.cell? ⟨b, 5, none⟩ = some x) (c6 : w.cell? ⟨b, 6, none⟩ = some y) :
    Calls Try.prog 10 #[pt b 0] w fun e w' => e = .returned (.tuple #[x, y]) ∧ Hid (∃ nq, w' = w.drewN nq) := by
  go_enter Try.func10, Try.ntmps10
  go_wp2
  go_quiet (fail)
  go_wp2
  go_ret2
  exact ⟨rfl, _, rfl⟩
end Go.Proofs.Qxb6616981a
