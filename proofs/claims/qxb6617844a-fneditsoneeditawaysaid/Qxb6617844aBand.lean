/-
  THE PLAIN LAW OF THE BAND: what the rows of 'edits' hold, no Go in sight.
-/
import Derived.Test.Qxb6617844aOsa
namespace Go.Proofs.Qxb6617844a.Osa

/-- Position k of row i, capped. -/
def B (eq : Nat → Nat → Bool) (m i k : Nat) : Nat := if i + k < 2 ∨ m + 2 < i + k then 3 else min (D eq i (i + k - 2)) 3

/-- As the rows are laid: row 0 holds more than is read. -/
def L (eq : Nat → Nat → Bool) (m i k : Nat) : Nat := if i = 0 then (if k < 2 then 3 else k - 2) else B eq m i k

/-- The least of the first k positions of row i, capped. -/
def NR (eq : Nat → Nat → Bool) (m i : Nat) : Nat → Nat
  | 0 => 3
  | k + 1 => min (NR eq m i k) (B eq m i k)

theorem B_le (eq : Nat → Nat → Bool) (m i k : Nat) : B eq m i k ≤ 3 := by unfold B; split <;> omega
theorem L_le (eq : Nat → Nat → Bool) (m i k : Nat) (hk : k < 5) : L eq m i k ≤ 3 := by
  unfold L; split
  · split <;> omega
  · exact B_le eq m i k
theorem NR_le (eq : Nat → Nat → Bool) (m i k : Nat) : NR eq m i k ≤ 3 := by
  cases k with
  | zero => exact Nat.le_refl _
  | succ k => have := B_le eq m i k; unfold NR; omega

theorem B_in (eq : Nat → Nat → Bool) (m i k j : Nat) (h : i + k = j + 2) (hj : j ≤ m) : B eq m i k = min (D eq i j) 3 := by
  unfold B
  rw [if_neg (by omega), show i + k - 2 = j from by omega]
theorem B_out (eq : Nat → Nat → Bool) (m i k : Nat) (h : i + k < 2 ∨ m + 2 < i + k) : B eq m i k = 3 := by
  unfold B; rw [if_pos h]
theorem L_in (eq : Nat → Nat → Bool) (m i k j : Nat) (h : i + k = j + 2) (hj : j ≤ m) (hk : k < 5) : L eq m i k = min (D eq i j) 3 := by
  unfold L
  split
  · rename_i h0; subst h0
    rw [if_neg (by omega), D_zero]; omega
  · exact B_in eq m i k j h hj

/-- THE STEP: what the round reckons at position k is position k of its row. -/
theorem step (eq : Nat → Nat → Bool) (m i k j x1 x2 x3 x4 : Nat) (h : i + 1 + k = j + 1 + 2) (hj : j + 1 ≤ m) (hk : k < 5)
    (h1 : x1 = if k + 1 < 5 then L eq m i (k + 1) + 1 else 3)
    (h2 : x2 = if 0 < k then min x1 (B eq m (i + 1) (k - 1) + 1) else x1)
    (h3 : x3 = min x2 (L eq m i k + if eq i j then 0 else 1))
    (h4 : x4 = if 1 ≤ i ∧ 1 ≤ j ∧ eq i (j - 1) = true ∧ eq (i - 1) j = true then min x3 (L eq m (i - 1) k + 1) else x3) :
    min x4 3 = B eq m (i + 1) k := by
  rw [B_in eq m (i + 1) k (j + 1) h hj]
  have e0 := L_in eq m i k j (by omega) (by omega) hk
  have b1 := (D_band eq _ i (j + 1) (Nat.le_refl _))
  have b2 := (D_band eq _ (i + 1) j (Nat.le_refl _))
  have e1 : min x1 3 = min (D eq i (j + 1) + 1) 3 := by
    by_cases c : k + 1 < 5
    · rw [if_pos c] at h1
      have := L_in eq m i (k + 1) (j + 1) (by omega) (by omega) c
      omega
    · rw [if_neg c] at h1; omega
  have e2 : min x2 3 = min (min (D eq i (j + 1) + 1) (D eq (i + 1) j + 1)) 3 := by
    by_cases c : 0 < k
    · rw [if_pos c] at h2
      have := B_in eq m (i + 1) (k - 1) j (by omega) (by omega)
      omega
    · rw [if_neg c] at h2; omega
  have e3 : min x3 3 = min (min (D eq i (j + 1) + 1) (min (D eq (i + 1) j + 1) (D eq i j + if eq i j then 0 else 1))) 3 := by
    clear e1 b1 b2 h1 h2 h4
    generalize (if eq i j = true then 0 else 1) = c at *
    omega
  clear e0 e1 e2 b1 b2 h1 h2 h3
  by_cases c : 1 ≤ i ∧ 1 ≤ j ∧ eq i (j - 1) = true ∧ eq (i - 1) j = true
  · rw [if_pos c] at h4
    obtain ⟨c1, c2, c3, c4⟩ := c
    obtain ⟨i, rfl⟩ : ∃ p, i = p + 1 := ⟨i - 1, by omega⟩
    obtain ⟨j, rfl⟩ : ∃ p, j = p + 1 := ⟨j - 1, by omega⟩
    have hs := D_swap eq i j ⟨by simpa using c3, by simpa using c4⟩
    have := L_in eq m i k j (by omega) (by omega) hk
    rw [show i + 1 - 1 = i from by omega] at h4
    generalize (if eq (i + 1) (j + 1) = true then 0 else 1) = c at *
    omega
  · rw [if_neg c] at h4
    have := D_plain eq i j c
    generalize (if eq i j = true then 0 else 1) = c at *
    omega

theorem B_at_zero (eq : Nat → Nat → Bool) (m i k : Nat) (h : i + k = 2) : B eq m i k = min i 3 := by
  rw [B_in eq m i k 0 (by omega) (by omega), D_any_zero]

theorem NR_all (eq : Nat → Nat → Bool) (m i : Nat) (h : NR eq m i 5 = 3) : ∀ k, k < 5 → B eq m i k = 3 := by
  intro k hk
  simp only [NR] at h
  have := B_le eq m i k
  match k, hk with
  | 0, _ => omega
  | 1, _ => omega
  | 2, _ => omega
  | 3, _ => omega
  | 4, _ => omega

theorem row_over (eq : Nat → Nat → Bool) (m i : Nat) (h : ∀ k, k < 5 → B eq m i k = 3) : ∀ j, j ≤ m → 3 ≤ D eq i j := by
  intro j hj
  have b := D_band eq _ i j (Nat.le_refl _)
  by_cases c : i ≤ j + 2 ∧ j + 2 < i + 5
  · have := h (j + 2 - i) (by omega)
    rw [B_in eq m i (j + 2 - i) j (by omega) hj] at this
    omega
  · omega

/-- The early way out. -/
theorem over_of (eq : Nat → Nat → Bool) (n m i : Nat) (hi : i + 1 ≤ n) (h1 : NR eq m (i + 1) 5 = 3) (h0 : ∀ k, k < 5 → 3 ≤ L eq m i k) : min (D eq n m) 3 = 3 := by
  have hi0 : i ≠ 0 := by
    intro h; subst h
    have := h0 2 (by omega)
    simp [L] at this
  have g0 : ∀ k, k < 5 → B eq m i k = 3 := by
    intro k hk
    have a := h0 k hk
    have b := B_le eq m i k
    unfold L at a
    rw [if_neg hi0] at a
    omega
  have := D_over eq n m i (row_over eq m i g0) (row_over eq m (i + 1) (NR_all eq m (i + 1) h1)) hi m (Nat.le_refl _)
  omega

end Go.Proofs.Qxb6617844a.Osa
