import Derived.Test.Qxb6617844aRows
import Derived.WalkKit
import Derived.WalkSpells
import Derived.WalkLawsBesides
namespace Go.Proofs.Qxb6617844a
open Go.RowKit

def minUp (f : Nat → Int) : Nat → Int
  | 0 => f 0
  | k + 1 => min (minUp f k) (f (k + 1))

set_option maxHeartbeats 400000 in
theorem min_any (b : Nat) (n cap : Nat) (f : Nat → Int) (w : World) (hn : 1 ≤ n) (hn5 : n ≤ 1000)
    (hc : ∀ j, j < n → w.cell? ⟨b, j, none⟩ = some (.int .i64 (f j))) :
    Calls Try.prog 17 #[.slice (some ⟨b, 0, none⟩) n cap] w fun e w' => e = .returned (.int .i64 (minUp f (n - 1))) ∧ w' = w := by
  have hc0 := hc 0 (by omega)
  go_enter Try.func17, Try.ntmps17
  go_wp2
  go_loop [3, 4] (fun m i => ∃ k : Nat, 1 ≤ k ∧ k ≤ n ∧ i = .int .i64 k ∧ m = .int .i64 (minUp f (k - 1))) (fun _ i => n - (intOf i).toNat)
  case atStart => exact ⟨1, Nat.le_refl _, hn, rfl, rfl⟩
  case round =>
    obtain ⟨k, hk1, hk, rfl, rfl⟩ := hrel
    by_cases hlt : k < n
    · have hck := hc k hlt
      go_wp2
      go_round
      case rel =>
        refine ⟨k + 1, by omega, by omega, by go_num, ?_⟩
        obtain ⟨k, rfl⟩ : ∃ j, k = j + 1 := ⟨k - 1, by omega⟩
        simp only [Nat.add_sub_cancel, minUp]
        congr 1
        split <;> omega
      case measure => simp [intOf]; omega
    · go_wp2
      go_ret
      have : k = n := by omega
      subst this
      exact ⟨rfl, rfl⟩
end Go.Proofs.Qxb6617844a
