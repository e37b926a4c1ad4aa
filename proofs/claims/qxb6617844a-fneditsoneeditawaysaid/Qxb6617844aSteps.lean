import Derived.Test.Qxb6617844aBand
namespace Go.Proofs.Qxb6617844a.Osa

theorem step_int (eq : Nat → Nat → Bool) (m i k j : Nat) (F G H : Nat → Int) (x1 x2 x3 x4 : Int) (h : i + 1 + k = j + 1 + 2) (hj : (j : Int) + 1 ≤ m) (hk : k < 5)
    (hG : ∀ j, j < 5 → G j = L eq m i j) (hF : 1 ≤ i → ∀ j, j < 5 → F j = L eq m (i - 1) j) (hH : ∀ j, j < k → H j = B eq m (i + 1) j)
    (h1 : x1 = if k + 1 < 5 then G (k + 1) + 1 else 3)
    (h2 : x2 = if 0 < k then min x1 (H (k - 1) + 1) else x1)
    (h3 : x3 = min x2 (G k + if eq i j = true then 0 else 1))
    (h4 : x4 = if 1 ≤ i ∧ 1 ≤ j ∧ eq i (j - 1) = true ∧ eq (i - 1) j = true then min x3 (F k + 1) else x3) :
    min x4 3 = (B eq m (i + 1) k : Nat) := by
  have key := step eq m i k j _ _ _ _ h (by omega) hk rfl rfl rfl rfl
  rw [← key]
  have e1 : x1 = ((if k + 1 < 5 then L eq m i (k + 1) + 1 else 3 : Nat) : Int) := by
    rw [h1]
    by_cases c : k + 1 < 5
    · rw [if_pos c, if_pos c, hG _ c]; rfl
    · rw [if_neg c, if_neg c]; rfl
  generalize (if k + 1 < 5 then L eq m i (k + 1) + 1 else 3 : Nat) = y1 at *
  have e2 : x2 = ((if 0 < k then min y1 (B eq m (i + 1) (k - 1) + 1) else y1 : Nat) : Int) := by
    rw [h2]
    by_cases c : 0 < k
    · rw [if_pos c, if_pos c, hH _ (by omega)]; omega
    · rw [if_neg c, if_neg c]; exact e1
  generalize (if 0 < k then min y1 (B eq m (i + 1) (k - 1) + 1) else y1 : Nat) = y2 at *
  have e3 : x3 = ((min y2 (L eq m i k + if eq i j = true then 0 else 1) : Nat) : Int) := by
    rw [h3, hG _ hk]
    by_cases c : eq i j = true
    · rw [if_pos c, if_pos c]; omega
    · rw [if_neg c, if_neg c]; omega
  generalize (min y2 (L eq m i k + if eq i j = true then 0 else 1) : Nat) = y3 at *
  have e4 : x4 = ((if 1 ≤ i ∧ 1 ≤ j ∧ eq i (j - 1) = true ∧ eq (i - 1) j = true then min y3 (L eq m (i - 1) k + 1) else y3 : Nat) : Int) := by
    rw [h4]
    by_cases c : 1 ≤ i ∧ 1 ≤ j ∧ eq i (j - 1) = true ∧ eq (i - 1) j = true
    · rw [if_pos c, if_pos c, hF c.1 _ hk]; omega
    · rw [if_neg c, if_neg c]; exact e3
  generalize (if 1 ≤ i ∧ 1 ≤ j ∧ eq i (j - 1) = true ∧ eq (i - 1) j = true then min y3 (L eq m (i - 1) k + 1) else y3 : Nat) = y4 at *
  omega

/-- What the round leaves. -/
theorem near_step (eq : Nat → Nat → Bool) (m i k : Nat) (v r : Int) (hv : v = (B eq m i k : Nat)) (hr : r = min ((NR eq m i k : Nat) : Int) v) : r = ((NR eq m i (k + 1) : Nat) : Int) := by
  rw [hr, hv, show NR eq m i (k + 1) = min (NR eq m i k) (B eq m i k) from rfl]; omega

end Go.Proofs.Qxb6617844a.Osa
