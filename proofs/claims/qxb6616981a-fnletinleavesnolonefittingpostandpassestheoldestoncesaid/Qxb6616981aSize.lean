/-
  bySize's methods: Len, Less, Swap, Push, Pop.
-/
import Derived.Test.Qxb6616981aBase
namespace Go.Proofs.Qxb6616981a
open Go.RowKit

set_option maxRecDepth 100000
set_option maxHeartbeats 4000000

theorem len_any (v : Option Addr) (n c : Nat) (w : World) : Calls Try.prog 54 #[.slice v n c] w fun e w' => e = .returned (.int .i64 n) ∧ w' = w := by
  go_enter Try.func54, Try.ntmps54
  go_wp2
  go_ret
  exact ⟨rfl, rfl⟩

theorem less_any (g n c i j wi wj : Nat) (si sj qi qj : Int) (w : World) (hi : i < n) (hj : j < n)
    (c1 : w.cell? ⟨g, i, none⟩ = some (pt wi 0)) (c2 : w.cell? ⟨g, j, none⟩ = some (pt wj 0)) (s1 : w.cell? ⟨wi, 0, none⟩ = some (.int .i64 si)) (s2 : w.cell? ⟨wj, 0, none⟩ = some (.int .i64 sj))
    (q1 : w.cell? ⟨wi, 1, none⟩ = some (.int .u64 qi)) (q2 : w.cell? ⟨wj, 1, none⟩ = some (.int .u64 qj)) :
    Calls Try.prog 55 #[.slice (some ⟨g, 0, none⟩) n c, .int .i64 i, .int .i64 j] w fun e w' => e = .returned (.bool (decide (si < sj ∨ (si = sj ∧ qi < qj)))) ∧ ∃ nq, w' = w.drewN nq := by
  by_cases h1 : si < sj
  · have d1 : decide (si < sj) = true := decide_eq_true h1
    have e0 : decide (si < sj ∨ (si = sj ∧ qi < qj)) = true := decide_eq_true (.inl h1)
    rw [e0]
    clear h1 e0
    go_enter Try.func55, Try.ntmps55
    go_wp2
    go_quiet (fail)
    go_wp2
    go_ret
    exact ⟨rfl, _, rfl⟩
  · have d1 : decide (si < sj) = false := decide_eq_false h1
    by_cases h2 : si = sj
    · have e0 : decide (si < sj ∨ (si = sj ∧ qi < qj)) = decide (qi < qj) := by simp [h2]
      rw [e0]
      have d2 : (si == sj) = true := by rw [beq_iff_eq]; exact h2
      clear h1 h2 e0
      obtain ⟨tb, htb⟩ : ∃ tb, decide (qi < qj) = tb := ⟨_, rfl⟩
      rw [htb]
      go_enter Try.func55, Try.ntmps55
      go_wp2
      go_quiet (fail)
      go_wp2
      go_ret
      exact ⟨rfl, _, rfl⟩
    · have e0 : decide (si < sj ∨ (si = sj ∧ qi < qj)) = false := by simp [h1, h2]
      rw [e0]
      have d2 : (si == sj) = false := by rw [beq_eq_false_iff_ne]; exact h2
      clear h1 h2 e0
      go_enter Try.func55, Try.ntmps55
      go_wp2
      go_quiet (fail)
      go_wp2
      go_ret
      exact ⟨rfl, _, rfl⟩

/-- The world behind Swap(i, j), i and j apart. -/
def swapW (w : World) (g i j wi wj : Nat) : World :=
  (((w.setCell ⟨g, i, none⟩ (pt wj 0)).setCell ⟨g, j, none⟩ (pt wi 0)).setCell ⟨wj, 4, none⟩ (.int .i64 i)).setCell ⟨wi, 4, none⟩ (.int .i64 j)

theorem swap_any (g n c i j wi wj : Nat) (a1 a2 : Value) (w : World) (hi : i < n) (hj : j < n) (hij : ¬ i = j) (hww : ¬ wi = wj) (hg1 : ¬ g = wi) (hg2 : ¬ g = wj)
    (c1 : w.cell? ⟨g, i, none⟩ = some (pt wi 0)) (c2 : w.cell? ⟨g, j, none⟩ = some (pt wj 0)) (s1 : w.cell? ⟨wi, 4, none⟩ = some a1) (s2 : w.cell? ⟨wj, 4, none⟩ = some a2)
    (f1 : w.frozen? ⟨g, i, none⟩ = false) (f2 : w.frozen? ⟨g, j, none⟩ = false) (f3 : w.frozen? ⟨wi, 4, none⟩ = false) (f4 : w.frozen? ⟨wj, 4, none⟩ = false) :
    Calls Try.prog 56 #[.slice (some ⟨g, 0, none⟩) n c, .int .i64 i, .int .i64 j] w fun e w' => e = .returned (.tuple #[]) ∧ w' = (swapW w g i j wi wj).drew.drew := by
  go_enter Try.func56, Try.ntmps56
  go_wp2
  go_region
  go_wp2
  go_region
  go_wp2
  exact bodyPost_end (v := .tuple #[]) (by simp [results, Try.results56]) rfl ⟨rfl, by unfold swapW; rfl⟩

/-- The world behind Pop: the last place cleared, the header one shorter. -/
def popW (w : World) (hb ho g n c : Nat) : World := (w.setCell ⟨g, n, none⟩ (.pointer none)).setCell ⟨hb, ho, none⟩ (.slice (some ⟨g, 0, none⟩) n c)

theorem pop_any (hb ho g n c : Nat) (wi : Nat) (w : World) (hn : n < 4611686018427387904) (hc : n + 1 ≤ c) (hg : ¬ g = hb) (h0 : w.cell? ⟨hb, ho, none⟩ = some (.slice (some ⟨g, 0, none⟩) (n + 1) c)) (h1 : w.cell? ⟨g, n, none⟩ = some (pt wi 0))
    (f0 : w.frozen? ⟨hb, ho, none⟩ = false) (f1 : w.frozen? ⟨g, n, none⟩ = false) :
    Calls Try.prog 58 #[pt hb ho] w fun e w' => e = .returned (.iface 30 (pt wi 0)) ∧ w' = popW w hb ho g n c := by
  go_enter Try.func58, Try.ntmps58
  go_wp2
  go_ret
  exact ⟨rfl, by unfold popW; rfl⟩
end Go.Proofs.Qxb6616981a
