/-
  Slices as values by index; zzBytes, zzSeqsValid, zzLaneHeads, zzNextAfter.
-/
import Derived.Test.Qxb6616981aBase
import Derived.Test.Qxb6616981aHeapLaw
namespace Go.Proofs.Qxb6616981a
open Go.RowKit

set_option maxRecDepth 100000
set_option maxHeartbeats 4000000

/-- A slice: its first n elements are f 0, f 1, .. -/
def Sl (w : World) (a : Option Addr) (n : Nat) (f : Nat → Value) : Prop :=
  0 < n → ∃ b o, a = some ⟨b, o, none⟩ ∧ b < w.heap.size ∧ ∀ j, j < n → w.cell? ⟨b, o + j, none⟩ = some (f j)
theorem Sl.below {w w' : World} {a : Option Addr} {n : Nat} {f : Nat → Value} (h : Sl w a n f) (hb : Below w.heap.size w w') : Sl w' a n f := by
  intro hn
  obtain ⟨b, o, h1, h2, h3⟩ := h hn
  exact ⟨b, o, h1, Nat.lt_of_lt_of_le h2 hb.size, fun j hj => (hb.cell (p := ⟨b, o + j, none⟩) h2).trans (h3 j hj)⟩
theorem Sl.drewN {w : World} {a : Option Addr} {n : Nat} {f : Nat → Value} (h : Sl w a n f) (q : Nat) : Sl (w.drewN q) a n f := h.below (below_drewN (Below.refl _ _) q)

theorem bytes5 (x0 x1 x2 x3 x4 b6 b7 : Value) (a : Option Addr) (n c : Nat) (hn : n < 4611686018427387904) (w : World) (t : Bool) (ht : decide ((1048576 : Int) < (n : Int)) = !t) :
    Calls Try.prog 5 #[x0, x1, x2, x3, x4, .slice a n c, b6, b7] w fun e w' => e = .returned (.bool t) ∧ w' = w := by
  cases t with
  | true =>
    simp only [Bool.not_true] at ht
    go_enter Try.func5, Try.ntmps5
    go_wp2
    go_ret
    exact ⟨rfl, rfl⟩
  | false =>
    simp only [Bool.not_false] at ht
    go_enter Try.func5, Try.ntmps5
    go_wp2
    go_ret
    exact ⟨rfl, rfl⟩
theorem bytes12 (x0 x1 x2 x3 x4 b6 b7 : Value) (a : Option Addr) (n c : Nat) (hn : n < 4611686018427387904) (w : World) (t : Bool) (ht : decide ((1048576 : Int) < (n : Int)) = !t) :
    Calls Try.prog 12 #[x0, x1, x2, x3, x4, .slice a n c, b6, b7] w fun e w' => e = .returned (.bool t) ∧ w' = w := by
  cases t with
  | true =>
    simp only [Bool.not_true] at ht
    go_enter Try.func12, Try.ntmps12
    go_wp2
    go_ret
    exact ⟨rfl, rfl⟩
  | false =>
    simp only [Bool.not_false] at ht
    go_enter Try.func12, Try.ntmps12
    go_wp2
    go_ret
    exact ⟨rfl, rfl⟩

theorem seqs_valid (a : Option Addr) (m c K : Nat) (g : Nat → Nat) (w : World) (hm : m ≤ 70000) (hK : K ≤ 70000) (hs : Sl w a m (fun j => .int .u64 (g j))) (hg : ∀ j, j < m → g j < K) :
    Calls Try.prog 15 #[.slice a m c, .int .i64 K] w fun e w' => e = .returned (.bool true) ∧ w' = w := by
  have HS : Hid (Sl w a m (fun j => .int .u64 (g j))) := hs
  have HG : Hid (∀ j, j < m → g j < K) := hg
  clear hs hg
  go_enter Try.func15, Try.ntmps15
  go_wp2
  go_loopg [5] m (fun q s5 wr => ∃ k : Nat, k ≤ m ∧ q = m - k ∧ s5 = .int .i64 k ∧ wr = w)
  case atStart => exact ⟨0, by omega, rfl, rfl, rfl⟩
  case round =>
    obtain ⟨k, hk, rfl, rfl, rfl⟩ := hrel
    by_cases hlt : k < m
    · have hdn : decide ((k : Int) < (m : Int)) = true := by rw [decide_eq_true_eq]; omega
      obtain ⟨b, o, rfl, hlb, hc⟩ := HS.out (by omega)
      have ck := hc k hlt
      have gk2 := HG.out k hlt
      have hge : decide ((K : Int) ≤ (g k : Int)) = false := by rw [decide_eq_false_iff_not]; omega
      clear hc
      simp only [] at ck
      go_wp2
      go_roundg (m - (k + 1))
      case measure => omega
      case rel => exact ⟨k + 1, by omega, rfl, by go_num, rfl⟩
    · obtain rfl : k = m := by omega
      go_wp2
      go_ret
      exact ⟨rfl, rfl⟩
end Go.Proofs.Qxb6616981a
