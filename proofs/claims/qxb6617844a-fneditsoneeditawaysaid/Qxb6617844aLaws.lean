/-
  MORE OF THE PLAIN LAW: one edit away; the table counted from the ends. No Go in sight.
-/
import Derived.Test.Qxb6617844aOsa
namespace Go.Proofs.Qxb6617844a.Osa

theorem D_diag (eq : Nat → Nat → Bool) (i j : Nat) : ∀ k, (∀ t, t < k → eq (i + t) (j + t) = true) → D eq (i + k) (j + k) ≤ D eq i j := by
  intro k
  induction k with
  | zero => intro _; exact Nat.le_refl _
  | succ k ih =>
    intro h
    have h1 := ih (fun t ht => h t (by omega))
    have h2 := D_relax eq (i + k + 1) (j + k + 1) (i + k) (j + k) (i + k + 1) (j + k + 1) 0
      (.inr (.inr (.inl ⟨rfl, rfl, by omega, by omega, by rw [h k (by omega)]; rfl⟩)))
    have e1 : i + (k + 1) = i + k + 1 := by omega
    have e2 : j + (k + 1) = j + k + 1 := by omega
    rw [e1, e2]; omega

theorem D_nought (eq : Nat → Nat → Bool) : ∀ k n m, n + m ≤ k → D eq n m = 0 → n = m ∧ ∀ t, t < n → eq t t = true := by
  intro k
  induction k with
  | zero => intro n m h _; exact ⟨by omega, fun t ht => by omega⟩
  | succ k ih =>
    intro n m h h0
    rcases D_attain eq n m n m (Nat.le_refl _) (Nat.le_refl _) with ⟨rfl, rfl⟩ | ⟨i0, j0, c, he, hv⟩
    · exact ⟨rfl, fun t ht => by omega⟩
    · rcases he with ⟨_, _, _, _, _⟩ | ⟨_, _, _, _, _⟩ | ⟨a, b, _, _, hc⟩ | ⟨_, _, _, _, _, _, _⟩
      · omega
      · omega
      · have hc0 : eq i0 j0 = true := by
          by_cases e : eq i0 j0 = true
          · exact e
          · rw [if_neg e] at hc; omega
        obtain ⟨e, ht⟩ := ih i0 j0 (by omega) (by omega)
        subst e
        refine ⟨by omega, fun t h => ?_⟩
        by_cases e : t = i0
        · rw [e]; exact hc0
        · exact ht t (by omega)
      · omega

theorem D_same (eq : Nat → Nat → Bool) (n : Nat) (h : ∀ t, t < n → eq t t = true) : D eq n n = 0 := by
  have h1 := D_diag eq 0 0 n (fun t ht => by simpa using h t ht)
  have h2 : D eq 0 0 = 0 := rfl
  simp only [Nat.zero_add] at h1
  omega

/-- One edge of cost one between two runs of equal letters. -/
theorem D_one (eq : Nat → Nat → Bool) (n m p di dj k : Nat) (h0 : ∀ t, t < p → eq t t = true) (he : Edge eq n m p p (p + di) (p + dj) 1)
    (hn : n = p + di + k) (hm : m = p + dj + k) (h1 : ∀ t, t < k → eq (p + di + t) (p + dj + t) = true) : D eq n m ≤ 1 := by
  have a := D_same eq p h0
  have b := D_relax eq n m p p (p + di) (p + dj) 1 he
  have c := D_diag eq (p + di) (p + dj) k h1
  rw [← hn, ← hm] at c
  omega

theorem S_end (eq : Nat → Nat → Bool) (n m j : Nat) : S eq n m n j = m - j := by
  unfold S; rw [Nat.sub_self, D_zero]
theorem S_side (eq : Nat → Nat → Bool) (n m i : Nat) : S eq n m i m = n - i := by
  unfold S; rw [Nat.sub_self, D_any_zero]

theorem S_le (eq : Nat → Nat → Bool) (n m i j : Nat) : S eq n m i j ≤ n + m := by
  have := D_le (fun p q => eq (n - 1 - p) (m - 1 - q)) n m (n - i) (m - j) (by omega) (by omega)
  unfold S; omega

/-- The round of the table that is counted from the ends. -/
theorem S_step (eq : Nat → Nat → Bool) (n m i j : Nat) (hi : i < n) (hj : j < m) (x1 x2 x3 x4 : Int)
    (h1 : x1 = (S eq n m (i + 1) j : Nat) + 1) (h2 : x2 = min x1 ((S eq n m i (j + 1) : Nat) + 1))
    (h3 : x3 = min x2 ((S eq n m (i + 1) (j + 1) : Nat) + if eq i j = true then 0 else 1))
    (h4 : x4 = if i + 1 < n ∧ j + 1 < m ∧ eq i (j + 1) = true ∧ eq (i + 1) j = true then min x3 ((S eq n m (i + 2) (j + 2) : Nat) + 1) else x3) :
    x4 = (S eq n m i j : Nat) := by
  have a1 := S_edge_le eq n m i j (i + 1) j 1 (.inl ⟨rfl, rfl, rfl, by omega, by omega⟩)
  have a2 := S_edge_le eq n m i j i (j + 1) 1 (.inr (.inl ⟨rfl, rfl, rfl, by omega, by omega⟩))
  have a3 := S_edge_le eq n m i j (i + 1) (j + 1) _ (.inr (.inr (.inl ⟨rfl, rfl, by omega, by omega, rfl⟩)))
  have hc : ((if eq i j = true then 0 else 1 : Nat) : Int) = (if eq i j = true then 0 else 1 : Int) := by split <;> rfl
  have lo : x4 ≥ (S eq n m i j : Nat) := by
    have l3 : x3 ≥ (S eq n m i j : Nat) := by rw [h3, h2, h1, ← hc]; omega
    rw [h4]
    split
    · rename_i c
      have a4 := S_edge_le eq n m i j (i + 2) (j + 2) 1 (.inr (.inr (.inr ⟨rfl, rfl, rfl, by omega, by omega, c.2.2.2, c.2.2.1⟩)))
      omega
    · exact l3
  have hi4 : x4 ≤ (S eq n m i j : Nat) := by
    have u43 : x4 ≤ x3 := by rw [h4]; split <;> omega
    have u32 : x3 ≤ x2 := by omega
    have u21 : x2 ≤ x1 := by omega
    rcases S_attain eq n m i j (by omega) (by omega) with h | ⟨i', j', c, he, hv⟩
    · omega
    · rcases he with ⟨rfl, rfl, rfl, _, _⟩ | ⟨rfl, rfl, rfl, _, _⟩ | ⟨rfl, rfl, _, _, rfl⟩ | ⟨rfl, rfl, rfl, b1, b2, b3, b4⟩
      · omega
      · omega
      · have : x3 ≤ (S eq n m (i + 1) (j + 1) : Nat) + (if eq i j = true then 0 else 1 : Int) := by omega
        rw [← hc] at this
        omega
      · rw [if_pos ⟨b1, b2, b4, b3⟩] at h4
        omega
  omega

theorem turn_eq (fa fb : Nat → Int) (n m : Nat) : D (fun i j => fb i == fa j) m n = D (fun i j => fa i == fb j) n m := by
  have e : (fun i j => fb i == fa j) = (fun i j => (fun p q => fa p == fb q) j i) := by
    funext i j
    rw [Bool.eq_iff_iff, beq_iff_eq, beq_iff_eq]
    exact eq_comm
  rw [e]
  exact D_turn (fun p q => fa p == fb q) n m

end Go.Proofs.Qxb6617844a.Osa
