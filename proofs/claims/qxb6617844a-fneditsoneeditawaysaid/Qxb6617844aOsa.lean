/-
  THE PLAIN LAW OF OPTIMAL STRING ALIGNMENT, no Go in sight: shortest paths through a grid.
  'D eq i j': the distance of the prefixes of lengths i and j, 'eq i j' telling whether letter i of the one is letter j of the other.
-/
namespace Go.Proofs.Qxb6617844a.Osa

/-- One row of the table (row i+1) out of the row before (row i) and the one before that (row i-1). -/
def rowD (eq : Nat → Nat → Bool) (i : Nat) (last before : Nat → Nat) : Nat → Nat
  | 0 => i + 1
  | j + 1 =>
    let c := min (last (j + 1) + 1) (min (rowD eq i last before j + 1) (last j + if eq i j then 0 else 1))
    if 1 ≤ i ∧ 1 ≤ j ∧ eq i (j - 1) = true ∧ eq (i - 1) j = true then min c (before (j - 1) + 1) else c

def rows (eq : Nat → Nat → Bool) : Nat → (Nat → Nat) × (Nat → Nat)
  | 0 => (fun j => j, fun _ => 0)
  | i + 1 => (rowD eq i (rows eq i).1 (rows eq i).2, (rows eq i).1)

def D (eq : Nat → Nat → Bool) (i j : Nat) : Nat := (rows eq i).1 j

theorem D_zero (eq : Nat → Nat → Bool) (j : Nat) : D eq 0 j = j := rfl
theorem D_succ_zero (eq : Nat → Nat → Bool) (i : Nat) : D eq (i + 1) 0 = i + 1 := rfl
theorem D_any_zero (eq : Nat → Nat → Bool) (i : Nat) : D eq i 0 = i := by cases i <;> rfl

theorem D_plain (eq : Nat → Nat → Bool) (i j : Nat) (h : ¬ (1 ≤ i ∧ 1 ≤ j ∧ eq i (j - 1) = true ∧ eq (i - 1) j = true)) :
    D eq (i + 1) (j + 1) = min (D eq i (j + 1) + 1) (min (D eq (i + 1) j + 1) (D eq i j + if eq i j then 0 else 1)) := by
  simp only [D, rows, rowD]; rw [if_neg h]

theorem D_swap (eq : Nat → Nat → Bool) (i j : Nat) (h : eq (i + 1) j = true ∧ eq i (j + 1) = true) :
    D eq (i + 1 + 1) (j + 1 + 1) = min (min (D eq (i + 1) (j + 1 + 1) + 1) (min (D eq (i + 1 + 1) (j + 1) + 1) (D eq (i + 1) (j + 1) + if eq (i + 1) (j + 1) then 0 else 1))) (D eq i j + 1) := by
  simp only [D, rows, rowD]
  rw [if_pos ⟨by omega, by omega, by simpa using h.1, by simpa using h.2⟩]
  rfl

/-- An edge of the grid: from (i, j) to (i', j') at cost c. -/
def Edge (eq : Nat → Nat → Bool) (n m i j i' j' c : Nat) : Prop :=
  (i' = i + 1 ∧ j' = j ∧ c = 1 ∧ i < n ∧ j ≤ m) ∨
  (i' = i ∧ j' = j + 1 ∧ c = 1 ∧ i ≤ n ∧ j < m) ∨
  (i' = i + 1 ∧ j' = j + 1 ∧ i < n ∧ j < m ∧ c = if eq i j then 0 else 1) ∨
  (i' = i + 2 ∧ j' = j + 2 ∧ c = 1 ∧ i + 1 < n ∧ j + 1 < m ∧ eq (i + 1) j = true ∧ eq i (j + 1) = true)

structure IsDist (eq : Nat → Nat → Bool) (n m : Nat) (F : Nat → Nat → Nat) : Prop where
  zero : F 0 0 = 0
  relax : ∀ i j i' j' c, Edge eq n m i j i' j' c → F i' j' ≤ F i j + c
  attain : ∀ i j, i ≤ n → j ≤ m → (i = 0 ∧ j = 0) ∨ ∃ i0 j0 c, Edge eq n m i0 j0 i j c ∧ F i j = F i0 j0 + c

theorem D_relax (eq : Nat → Nat → Bool) (n m i j i' j' c : Nat) (h : Edge eq n m i j i' j' c) : D eq i' j' ≤ D eq i j + c := by
  rcases h with ⟨rfl, rfl, rfl, _, _⟩ | ⟨rfl, rfl, rfl, _, _⟩ | ⟨rfl, rfl, _, _, rfl⟩ | ⟨rfl, rfl, rfl, _, _, h1, h2⟩
  · cases j' with
    | zero => rw [D_any_zero, D_any_zero]; omega
    | succ j =>
      by_cases h : 1 ≤ i ∧ 1 ≤ j ∧ eq i (j - 1) = true ∧ eq (i - 1) j = true
      · obtain ⟨a, b, c, d⟩ := h
        obtain ⟨i, rfl⟩ : ∃ k, i = k + 1 := ⟨i - 1, by omega⟩
        obtain ⟨j, rfl⟩ : ∃ k, j = k + 1 := ⟨j - 1, by omega⟩
        rw [D_swap eq i j ⟨by simpa using c, by simpa using d⟩]; omega
      · rw [D_plain eq i j h]; omega
  · cases i' with
    | zero => rw [D_zero, D_zero]; omega
    | succ i =>
      by_cases h : 1 ≤ i ∧ 1 ≤ j ∧ eq i (j - 1) = true ∧ eq (i - 1) j = true
      · obtain ⟨a, b, c, d⟩ := h
        obtain ⟨i, rfl⟩ : ∃ k, i = k + 1 := ⟨i - 1, by omega⟩
        obtain ⟨j, rfl⟩ : ∃ k, j = k + 1 := ⟨j - 1, by omega⟩
        rw [D_swap eq i j ⟨by simpa using c, by simpa using d⟩]; omega
      · rw [D_plain eq i j h]; omega
  · by_cases h : 1 ≤ i ∧ 1 ≤ j ∧ eq i (j - 1) = true ∧ eq (i - 1) j = true
    · obtain ⟨a, b, c, d⟩ := h
      obtain ⟨i, rfl⟩ : ∃ k, i = k + 1 := ⟨i - 1, by omega⟩
      obtain ⟨j, rfl⟩ : ∃ k, j = k + 1 := ⟨j - 1, by omega⟩
      rw [D_swap eq i j ⟨by simpa using c, by simpa using d⟩]; omega
    · rw [D_plain eq i j h]; omega
  · show D eq (i + 1 + 1) (j + 1 + 1) ≤ _
    rw [D_swap eq i j ⟨h1, h2⟩]; omega

theorem D_attain (eq : Nat → Nat → Bool) (n m i j : Nat) (hi : i ≤ n) (hj : j ≤ m) :
    (i = 0 ∧ j = 0) ∨ ∃ i0 j0 c, Edge eq n m i0 j0 i j c ∧ D eq i j = D eq i0 j0 + c := by
  cases i with
  | zero =>
    cases j with
    | zero => exact .inl ⟨rfl, rfl⟩
    | succ j => exact .inr ⟨0, j, 1, .inr (.inl ⟨rfl, rfl, rfl, by omega, by omega⟩), by rw [D_zero, D_zero]⟩
  | succ i =>
    cases j with
    | zero => exact .inr ⟨i, 0, 1, .inl ⟨rfl, rfl, rfl, by omega, by omega⟩, by rw [D_any_zero, D_any_zero]⟩
    | succ j =>
      refine .inr ?_
      have key : ∀ X, X = min (D eq i (j + 1) + 1) (min (D eq (i + 1) j + 1) (D eq i j + if eq i j then 0 else 1)) →
          ∃ i0 j0 c, Edge eq n m i0 j0 (i + 1) (j + 1) c ∧ X = D eq i0 j0 + c := by
        intro X hX
        have h3 : X = D eq i (j + 1) + 1 ∨ X = D eq (i + 1) j + 1 ∨ X = D eq i j + (if eq i j then 0 else 1) := by omega
        rcases h3 with h | h | h
        · exact ⟨i, j + 1, 1, .inl ⟨rfl, rfl, rfl, by omega, by omega⟩, h⟩
        · exact ⟨i + 1, j, 1, .inr (.inl ⟨rfl, rfl, rfl, by omega, by omega⟩), h⟩
        · exact ⟨i, j, _, .inr (.inr (.inl ⟨rfl, rfl, by omega, by omega, rfl⟩)), h⟩
      by_cases h : 1 ≤ i ∧ 1 ≤ j ∧ eq i (j - 1) = true ∧ eq (i - 1) j = true
      · obtain ⟨a, b, c, d⟩ := h
        obtain ⟨i, rfl⟩ : ∃ k, i = k + 1 := ⟨i - 1, by omega⟩
        obtain ⟨j, rfl⟩ : ∃ k, j = k + 1 := ⟨j - 1, by omega⟩
        have hc : eq (i + 1) j = true := by simpa using c
        have hd : eq i (j + 1) = true := by simpa using d
        have hs := D_swap eq i j ⟨hc, hd⟩
        by_cases hx : D eq (i + 1 + 1) (j + 1 + 1) = D eq i j + 1
        · exact ⟨i, j, 1, .inr (.inr (.inr ⟨rfl, rfl, rfl, by omega, by omega, hc, hd⟩)), hx⟩
        · exact key _ (by omega)
      · exact key _ (D_plain eq i j h)

theorem D_isDist (eq : Nat → Nat → Bool) (n m : Nat) : IsDist eq n m (D eq) :=
  ⟨rfl, fun i j i' j' c h => D_relax eq n m i j i' j' c h, fun i j hi hj => D_attain eq n m i j hi hj⟩

/-- Of two distances one is not above the other. -/
theorem IsDist.le {eq : Nat → Nat → Bool} {n m : Nat} {F G : Nat → Nat → Nat} (hF : IsDist eq n m F) (hG : IsDist eq n m G) :
    ∀ k i j, i + j ≤ k → i ≤ n → j ≤ m → F i j ≤ G i j := by
  intro k
  induction k with
  | zero =>
    intro i j hk hi hj
    obtain rfl : i = 0 := by omega
    obtain rfl : j = 0 := by omega
    rw [hF.zero]; omega
  | succ k ih =>
    intro i j hk hi hj
    rcases hG.attain i j hi hj with ⟨rfl, rfl⟩ | ⟨i0, j0, c, he, hv⟩
    · rw [hF.zero]; omega
    · have h1 := hF.relax _ _ _ _ _ he
      have h2 : i0 + j0 < i + j ∧ i0 ≤ n ∧ j0 ≤ m := by
        unfold Edge at he; omega
      have h3 := ih i0 j0 (by omega) h2.2.1 h2.2.2
      omega

theorem IsDist.unique {eq : Nat → Nat → Bool} {n m : Nat} {F G : Nat → Nat → Nat} (hF : IsDist eq n m F) (hG : IsDist eq n m G) (i j : Nat) (hi : i ≤ n) (hj : j ≤ m) :
    F i j = G i j :=
  Nat.le_antisymm (hF.le hG (i + j) i j (Nat.le_refl _) hi hj) (hG.le hF (i + j) i j (Nat.le_refl _) hi hj)

/-- The other way about: the same distance. -/
theorem D_turn (eq : Nat → Nat → Bool) (n m : Nat) : D (fun i j => eq j i) m n = D eq n m := by
  have h : IsDist eq n m (fun i j => D (fun i j => eq j i) j i) := by
    refine ⟨rfl, ?_, ?_⟩
    · intro i j i' j' c he
      refine D_relax (fun i j => eq j i) m n j i j' i' c ?_
      unfold Edge at *
      rcases he with he | he | he | he
      · exact .inr (.inl ⟨he.2.1, he.1, he.2.2.1, he.2.2.2.2, he.2.2.2.1⟩)
      · exact .inl ⟨he.2.1, he.1, he.2.2.1, he.2.2.2.2, he.2.2.2.1⟩
      · exact .inr (.inr (.inl ⟨he.2.1, he.1, he.2.2.2.1, he.2.2.1, he.2.2.2.2⟩))
      · exact .inr (.inr (.inr ⟨he.2.1, he.1, he.2.2.1, he.2.2.2.2.1, he.2.2.2.1, he.2.2.2.2.2.2, he.2.2.2.2.2.1⟩))
    · intro i j hi hj
      rcases D_attain (fun i j => eq j i) m n j i hj hi with ⟨a, b⟩ | ⟨j0, i0, c, he, hv⟩
      · exact .inl ⟨b, a⟩
      · refine .inr ⟨i0, j0, c, ?_, hv⟩
        unfold Edge at *
        rcases he with he | he | he | he
        · exact .inr (.inl ⟨he.2.1, he.1, he.2.2.1, he.2.2.2.2, he.2.2.2.1⟩)
        · exact .inl ⟨he.2.1, he.1, he.2.2.1, he.2.2.2.2, he.2.2.2.1⟩
        · exact .inr (.inr (.inl ⟨he.2.1, he.1, he.2.2.2.1, he.2.2.1, he.2.2.2.2⟩))
        · exact .inr (.inr (.inr ⟨he.2.1, he.1, he.2.2.1, he.2.2.2.2.1, he.2.2.2.1, he.2.2.2.2.2.2, he.2.2.2.2.2.1⟩))
  exact h.unique (D_isDist eq n m) n m (Nat.le_refl _) (Nat.le_refl _)

/-- The distance of the suffixes from i and j on, of texts of lengths n and m. -/
def S (eq : Nat → Nat → Bool) (n m i j : Nat) : Nat := D (fun p q => eq (n - 1 - p) (m - 1 - q)) (n - i) (m - j)

theorem S_edge_le (eq : Nat → Nat → Bool) (n m i j i' j' c : Nat) (h : Edge eq n m i j i' j' c) : S eq n m i j ≤ S eq n m i' j' + c := by
  unfold S
  refine D_relax _ n m (n - i') (m - j') (n - i) (m - j) c ?_
  unfold Edge at *
  rcases h with ⟨rfl, rfl, rfl, _, _⟩ | ⟨rfl, rfl, rfl, _, _⟩ | ⟨rfl, rfl, _, _, rfl⟩ | ⟨rfl, rfl, rfl, _, _, h1, h2⟩
  · exact .inl ⟨by omega, rfl, rfl, by omega, by omega⟩
  · exact .inr (.inl ⟨rfl, by omega, rfl, by omega, by omega⟩)
  · refine .inr (.inr (.inl ⟨by omega, by omega, by omega, by omega, ?_⟩))
    have e1 : n - 1 - (n - (i + 1)) = i := by omega
    have e2 : m - 1 - (m - (j + 1)) = j := by omega
    simp only [e1, e2]
  · refine .inr (.inr (.inr ⟨by omega, by omega, rfl, by omega, by omega, ?_, ?_⟩))
    · have e1 : n - 1 - (n - (i + 2) + 1) = i := by omega
      have e2 : m - 1 - (m - (j + 2)) = j + 1 := by omega
      simp only [e1, e2]; exact h2
    · have e1 : n - 1 - (n - (i + 2)) = i + 1 := by omega
      have e2 : m - 1 - (m - (j + 2) + 1) = j := by omega
      simp only [e1, e2]; exact h1

theorem S_attain (eq : Nat → Nat → Bool) (n m i j : Nat) (hi : i ≤ n) (hj : j ≤ m) :
    (i = n ∧ j = m) ∨ ∃ i' j' c, Edge eq n m i j i' j' c ∧ S eq n m i j = S eq n m i' j' + c := by
  unfold S
  rcases D_attain (fun p q => eq (n - 1 - p) (m - 1 - q)) n m (n - i) (m - j) (by omega) (by omega) with h | ⟨p, q, c, he, hv⟩
  · exact .inl (by omega)
  · refine .inr ⟨n - p, m - q, c, ?_, ?_⟩
    · unfold Edge at *
      rcases he with ⟨h1, h2, rfl, _, _⟩ | ⟨h1, h2, rfl, _, _⟩ | ⟨h1, h2, _, _, rfl⟩ | ⟨h1, h2, rfl, _, _, h3, h4⟩
      · exact .inl ⟨by omega, by omega, rfl, by omega, by omega⟩
      · exact .inr (.inl ⟨by omega, by omega, rfl, by omega, by omega⟩)
      · refine .inr (.inr (.inl ⟨by omega, by omega, by omega, by omega, ?_⟩))
        have e1 : n - 1 - p = i := by omega
        have e2 : m - 1 - q = j := by omega
        simp only [e1, e2]
      · refine .inr (.inr (.inr ⟨by omega, by omega, rfl, by omega, by omega, ?_, ?_⟩))
        · have e1 : n - 1 - p = i + 1 := by omega
          have e2 : m - 1 - (q + 1) = j := by omega
          simp only [e1, e2] at h4; exact h4
        · have e1 : n - 1 - (p + 1) = i := by omega
          have e2 : m - 1 - q = j + 1 := by omega
          simp only [e1, e2] at h3; exact h3
    · have hb : p ≤ n ∧ q ≤ m := by unfold Edge at he; omega
      have e1 : n - (n - p) = p := by omega
      have e2 : m - (m - q) = q := by omega
      rw [e1, e2]; exact hv

/-- Counted from the ends, the same distance. -/
theorem S_eq_D (eq : Nat → Nat → Bool) (n m : Nat) : S eq n m 0 0 = D eq n m := by
  refine Nat.le_antisymm ?_ ?_
  · have h : ∀ k i j, i + j ≤ k → i ≤ n → j ≤ m → S eq n m 0 0 ≤ D eq i j + S eq n m i j := by
      intro k
      induction k with
      | zero =>
        intro i j hk hi hj
        obtain rfl : i = 0 := by omega
        obtain rfl : j = 0 := by omega
        omega
      | succ k ih =>
        intro i j hk hi hj
        rcases D_attain eq n m i j hi hj with ⟨rfl, rfl⟩ | ⟨i0, j0, c, he, hv⟩
        · omega
        · have h1 := S_edge_le eq n m _ _ _ _ _ he
          have h2 : i0 + j0 < i + j ∧ i0 ≤ n ∧ j0 ≤ m := by unfold Edge at he; omega
          have h3 := ih i0 j0 (by omega) h2.2.1 h2.2.2
          omega
    have h1 := h (n + m) n m (Nat.le_refl _) (Nat.le_refl _) (Nat.le_refl _)
    have h2 : S eq n m n m = 0 := by unfold S; simp [D_zero]
    omega
  · have h : ∀ k i j, (n - i) + (m - j) ≤ k → i ≤ n → j ≤ m → D eq n m ≤ D eq i j + S eq n m i j := by
      intro k
      induction k with
      | zero =>
        intro i j hk hi hj
        obtain rfl : i = n := by omega
        obtain rfl : j = m := by omega
        omega
      | succ k ih =>
        intro i j hk hi hj
        rcases S_attain eq n m i j hi hj with ⟨rfl, rfl⟩ | ⟨i0, j0, c, he, hv⟩
        · omega
        · have h1 := D_relax eq n m _ _ _ _ _ he
          have h2 : i + j < i0 + j0 ∧ i0 ≤ n ∧ j0 ≤ m := by unfold Edge at he; omega
          have h3 := ih i0 j0 (by omega) h2.2.1 h2.2.2
          omega
    have h1 := h (n + m) 0 0 (by omega) (by omega) (by omega)
    have h2 : D eq 0 0 = 0 := rfl
    omega

/-- Each letter that one prefix has more than the other takes an edit. -/
theorem D_band (eq : Nat → Nat → Bool) : ∀ k i j, i + j ≤ k → i ≤ D eq i j + j ∧ j ≤ D eq i j + i := by
  intro k
  induction k with
  | zero => intro i j h; omega
  | succ k ih =>
    intro i j h
    rcases D_attain eq i j i j (Nat.le_refl _) (Nat.le_refl _) with ⟨rfl, rfl⟩ | ⟨i0, j0, c, he, hv⟩
    · omega
    · have h2 : i0 + j0 < i + j := by unfold Edge at he; omega
      have h3 := ih i0 j0 (by omega)
      unfold Edge at he
      omega

/-- The bounds of the table. -/
theorem D_le (eq : Nat → Nat → Bool) (n m : Nat) : ∀ i j, i ≤ n → j ≤ m → D eq i j ≤ i + j := by
  intro i j _ _
  have : ∀ i, D eq i j ≤ i + j := by
    intro i
    induction i with
    | zero => rw [D_zero]; omega
    | succ i ih =>
      have := D_relax eq (i + 1) j i j (i + 1) j 1 (.inl ⟨rfl, rfl, rfl, by omega, by omega⟩)
      omega
  exact this i

/-- Two rows that are all above the cap: all later ones are. -/
theorem D_over (eq : Nat → Nat → Bool) (n m i : Nat) (h0 : ∀ j, j ≤ m → 3 ≤ D eq i j) (h1 : ∀ j, j ≤ m → 3 ≤ D eq (i + 1) j) (hn : i + 1 ≤ n) :
    ∀ j, j ≤ m → 3 ≤ D eq n j := by
  have key : ∀ k, (∀ j, j ≤ m → 3 ≤ D eq (i + k) j) ∧ (∀ j, j ≤ m → 3 ≤ D eq (i + k + 1) j) := by
    intro k
    induction k with
    | zero => exact ⟨h0, h1⟩
    | succ k ih =>
      refine ⟨ih.2, ?_⟩
      intro j
      induction j with
      | zero =>
        intro _
        have := ih.2 0 (by omega)
        rw [D_any_zero] at *
        omega
      | succ j jh =>
        intro hj
        have g1 := jh (by omega)
        have g2 := ih.2 (j + 1) hj
        have g3 := ih.2 j (by omega)
        rcases D_attain eq (i + (k + 1) + 1) (j + 1) (i + (k + 1) + 1) (j + 1) (Nat.le_refl _) (Nat.le_refl _) with ⟨h, _⟩ | ⟨i0, j0, c, he, hv⟩
        · omega
        · rcases he with ⟨a, b, _, _, _⟩ | ⟨a, b, _, _, _⟩ | ⟨a, b, _, _, _⟩ | ⟨a, b, _, _, _, _, _⟩
          · obtain rfl : i0 = i + k + 1 := by omega
            obtain rfl : j0 = j + 1 := by omega
            omega
          · obtain rfl : i0 = i + (k + 1) + 1 := by omega
            obtain rfl : j0 = j := by omega
            omega
          · obtain rfl : i0 = i + k + 1 := by omega
            obtain rfl : j0 = j := by omega
            omega
          · obtain rfl : i0 = i + k := by omega
            have := ih.1 j0 (by omega)
            omega
  intro j hj
  have := (key (n - i - 1)).2 j hj
  rw [show i + (n - i - 1) + 1 = n from by omega] at this
  exact this

end Go.Proofs.Qxb6617844a.Osa
