/-
  THE PLAIN LAW OF A BINARY HEAP: up and down keep order; no Go in sight.
-/
namespace Go.Proofs.Qxb6616981a.Hp

/-- Smaller first, of one size the first come. -/
def lt (sz : Nat → Int) (a b : Nat) : Prop := sz a < sz b ∨ (sz a = sz b ∧ a < b)
theorem lt_irrefl {sz : Nat → Int} (a : Nat) : ¬ lt sz a a := by unfold lt; omega
theorem lt_asymm {sz : Nat → Int} {a b : Nat} (h : lt sz a b) : ¬ lt sz b a := by unfold lt at *; omega
theorem nlt_trans {sz : Nat → Int} {a b c : Nat} (h1 : ¬ lt sz a b) (h2 : ¬ lt sz b c) : ¬ lt sz a c := by unfold lt at *; omega
theorem lt_or {sz : Nat → Int} {a b : Nat} (h1 : ¬ lt sz a b) (h2 : ¬ lt sz b a) : a = b := by unfold lt at *; omega

def sw (f : Nat → Nat) (i j : Nat) : Nat → Nat := fun k => if k = i then f j else if k = j then f i else f k
theorem sw_i (f : Nat → Nat) (i j : Nat) : sw f i j i = f j := by simp [sw]
theorem sw_j (f : Nat → Nat) (i j : Nat) : sw f i j j = f i := by unfold sw; split <;> simp_all
theorem sw_k (f : Nat → Nat) {i j k : Nat} (h1 : k ≠ i) (h2 : k ≠ j) : sw f i j k = f k := by simp [sw, h1, h2]

def ok (sz : Nat → Int) (f : Nat → Nat) (k : Nat) : Prop := ¬ lt sz (f k) (f ((k - 1) / 2))
def Heap (sz : Nat → Int) (f : Nat → Nat) (n : Nat) : Prop := ∀ k, 0 < k → k < n → ok sz f k

structure UpI (sz : Nat → Int) (f : Nat → Nat) (n j : Nat) : Prop where
  oks : ∀ k, 0 < k → k < n → k ≠ j → ok sz f k
  kid : ∀ c, 0 < c → c < n → (c - 1) / 2 = j → 0 < j → ¬ lt sz (f c) (f ((j - 1) / 2))

theorem up_end0 {sz : Nat → Int} {f : Nat → Nat} {n : Nat} (h : UpI sz f n 0) : Heap sz f n := fun k h0 hn => h.oks k h0 hn (by omega)
theorem up_end {sz : Nat → Int} {f : Nat → Nat} {n j : Nat} (h : UpI sz f n j) (hj : ok sz f j) : Heap sz f n := fun k h0 hn => by
  by_cases e : k = j
  · subst e; exact hj
  · exact h.oks k h0 hn e

theorem up_step {sz : Nat → Int} {f : Nat → Nat} {n j : Nat} (h : UpI sz f n j) (h0 : 0 < j) (hn : j < n) (hl : lt sz (f j) (f ((j - 1) / 2))) : UpI sz (sw f ((j - 1) / 2) j) n ((j - 1) / 2) := by
  have hp : (j - 1) / 2 < j := by omega
  generalize hpe : (j - 1) / 2 = p at hp hl
  have okj : ∀ k, 0 < k → k < n → k ≠ j → ¬ lt sz (f k) (f ((k - 1) / 2)) := h.oks
  have kid : ∀ c, 0 < c → c < n → (c - 1) / 2 = j → ¬ lt sz (f c) (f p) := fun c a b e => by have := h.kid c a b e h0; rw [hpe] at this; exact this
  constructor
  · intro k k0 kn ke
    unfold ok
    by_cases e1 : k = j
    · subst e1; rw [sw_j, hpe, sw_i]; exact lt_asymm hl
    · rw [sw_k _ ke e1]
      by_cases e2 : (k - 1) / 2 = p
      · rw [e2, sw_i]
        have := okj k k0 kn e1
        rw [e2] at this
        exact nlt_trans this (lt_asymm hl)
      · by_cases e3 : (k - 1) / 2 = j
        · rw [e3, sw_j]; exact kid k k0 kn e3
        · rw [sw_k _ e2 e3]; exact okj k k0 kn e1
  · intro c c0 cn ce p0
    have q1 : (p - 1) / 2 ≠ p := by omega
    have q2 : (p - 1) / 2 ≠ j := by omega
    rw [sw_k _ q1 q2]
    have okp := okj p p0 (by omega) (by omega)
    by_cases e1 : c = j
    · subst e1; rw [sw_j]; exact okp
    · rw [sw_k _ (by omega) e1]
      have := okj c c0 cn e1
      rw [ce] at this
      exact nlt_trans this okp

structure DnI (sz : Nat → Int) (f : Nat → Nat) (n i0 i : Nat) : Prop where
  oks : ∀ k, 0 < k → k < n → k ≠ i → (k - 1) / 2 ≠ i → ok sz f k
  kid : ∀ c, 0 < c → c < n → (c - 1) / 2 = i → 0 < i → ¬ lt sz (f c) (f ((i - 1) / 2))
  ge : i0 ≤ i
  me : i0 < i → ok sz f i

theorem down_step {sz : Nat → Int} {f : Nat → Nat} {n i0 i j : Nat} (h : DnI sz f n i0 i) (hj : j = 2 * i + 1 ∨ j = 2 * i + 2) (hn : j < n)
    (hb : ∀ c, 0 < c → c < n → (c - 1) / 2 = i → ¬ lt sz (f c) (f j)) (hl : lt sz (f j) (f i)) : DnI sz (sw f i j) n i0 j := by
  have hpj : (j - 1) / 2 = i := by omega
  have hij : i < j := by omega
  have oks : ∀ k, 0 < k → k < n → k ≠ i → (k - 1) / 2 ≠ i → ¬ lt sz (f k) (f ((k - 1) / 2)) := h.oks
  have okj : ok sz (sw f i j) j := by unfold ok; rw [sw_j, hpj, sw_i]; exact lt_asymm hl
  refine ⟨?_, ?_, by have := h.ge; omega, fun _ => okj⟩
  · intro k k0 kn ke kp
    unfold ok
    by_cases e1 : k = i
    · subst e1
      rw [sw_i, sw_k _ (by omega) (by omega)]
      exact h.kid j (by omega) hn hpj k0
    · rw [sw_k _ e1 ke]
      by_cases e2 : (k - 1) / 2 = i
      · rw [e2, sw_i]; exact hb k k0 kn e2
      · rw [sw_k _ e2 kp]; exact oks k k0 kn e1 e2
  · intro c c0 cn ce j0
    rw [sw_k _ (by omega) (by omega), hpj, sw_i]
    have := oks c c0 cn (by omega) (by omega)
    rw [ce] at this
    exact this

theorem down_end_moved {sz : Nat → Int} {f : Nat → Nat} {n i0 i : Nat} (h : DnI sz f n i0 i) (hm : i0 < i) (hb : ∀ c, 0 < c → c < n → (c - 1) / 2 = i → ¬ lt sz (f c) (f i)) : Heap sz f n := fun k k0 kn => by
  by_cases e1 : k = i
  · subst e1; exact h.me hm
  · by_cases e2 : (k - 1) / 2 = i
    · have := hb k k0 kn e2; unfold ok; rw [e2]; exact this
    · exact h.oks k k0 kn e1 e2

theorem down_end_still {sz : Nat → Int} {f : Nat → Nat} {n i : Nat} (h : DnI sz f n i i) (hb : ∀ c, 0 < c → c < n → (c - 1) / 2 = i → ¬ lt sz (f c) (f i)) : UpI sz f n i := by
  refine ⟨fun k k0 kn e1 => ?_, h.kid⟩
  by_cases e2 : (k - 1) / 2 = i
  · have := hb k k0 kn e2; unfold ok; rw [e2]; exact this
  · exact h.oks k k0 kn e1 e2

/-- Swapped with the last, which is then left out. -/
theorem down_start {sz : Nat → Int} {f : Nat → Nat} {n i : Nat} (h : Heap sz f (n + 1)) (hi : i < n) : DnI sz (sw f i n) n i i := by
  refine ⟨?_, ?_, Nat.le_refl _, fun h => absurd h (by omega)⟩
  · intro k k0 kn ke kp
    unfold ok
    rw [sw_k _ ke (by omega), sw_k _ kp (by omega)]
    exact h k k0 (by omega)
  · intro c c0 cn ce i0
    rw [sw_k _ (by omega) (by omega), sw_k _ (by omega) (by omega)]
    have a := h c c0 (by omega)
    have b := h i i0 (by omega)
    unfold ok at a b
    rw [ce] at a
    exact nlt_trans a b

def ad (f : Nat → Nat) (n x : Nat) : Nat → Nat := fun k => if k = n then x else f k
theorem push_start {sz : Nat → Int} {f : Nat → Nat} {n x : Nat} (h : Heap sz f n) : UpI sz (ad f n x) (n + 1) n := by
  refine ⟨fun k k0 kn ke => ?_, fun c c0 cn ce n0 => by omega⟩
  show ¬ lt sz (if k = n then x else f k) (if (k - 1) / 2 = n then x else f ((k - 1) / 2))
  rw [if_neg (by omega), if_neg (by omega)]
  exact h k k0 (by omega)

theorem heap_less {sz : Nat → Int} {f : Nat → Nat} {n m : Nat} (h : Heap sz f n) (hm : m ≤ n) : Heap sz f m := fun k a b => h k a (by omega)

theorem heap_min {sz : Nat → Int} {f : Nat → Nat} {n : Nat} (h : Heap sz f n) : ∀ k, k < n → ¬ lt sz (f k) (f 0) := by
  intro k
  induction k using Nat.strongRecOn with
  | _ k ih =>
    intro hk
    by_cases e : k = 0
    · subst e; exact lt_irrefl _
    · exact nlt_trans (h k (by omega) hk) (ih ((k - 1) / 2) (by omega) (by omega))

/-- The first n places hold just the P's, each once. -/
structure Mem (f : Nat → Nat) (n : Nat) (P : Nat → Prop) : Prop where
  mem : ∀ j, j < n → P (f j)
  all : ∀ i, P i → ∃ j, j < n ∧ f j = i
  inj : ∀ j k, j < n → k < n → f j = f k → j = k

theorem Mem.sw {f : Nat → Nat} {n : Nat} {P : Nat → Prop} (h : Mem f n P) {i j : Nat} (hi : i < n) (hj : j < n) : Mem (sw f i j) n P := by
  have key : ∀ k, k < n → ∃ k', k' < n ∧ Hp.sw f i j k = f k' ∧ Hp.sw f i j k' = f k := by
    intro k hk
    by_cases e1 : k = i
    · subst e1; exact ⟨j, hj, sw_i _ _ _, sw_j _ _ _⟩
    · by_cases e2 : k = j
      · subst e2; exact ⟨i, hi, sw_j _ _ _, sw_i _ _ _⟩
      · exact ⟨k, hk, sw_k _ e1 e2, sw_k _ e1 e2⟩
  refine ⟨fun k hk => ?_, fun x hx => ?_, fun a b ha hb e => ?_⟩
  · obtain ⟨k', h1, h2, _⟩ := key k hk; rw [h2]; exact h.mem k' h1
  · obtain ⟨k, h1, h2⟩ := h.all x hx
    obtain ⟨k', h3, _, h5⟩ := key k h1
    exact ⟨k', h3, by rw [h5, h2]⟩
  · have I := h.inj
    unfold Hp.sw at e
    by_cases a1 : a = i <;> by_cases a2 : a = j <;> by_cases b1 : b = i <;> by_cases b2 : b = j <;> simp only [a1, a2, b1, b2, if_false, if_pos] at e
    all_goals first
      | omega
      | (split at e <;> split at e <;> first | omega | (have := I _ _ hi hj e; omega) | (have := I _ _ hj hi e; omega) | (have := I _ _ hj hb e; omega) | (have := I _ _ hi hb e; omega) | (have := I _ _ ha hi e; omega) | (have := I _ _ ha hj e; omega) | (have := I _ _ ha hb e; omega))
      | (split at e <;> first | omega | (have := I _ _ hi hj e; omega) | (have := I _ _ hj hi e; omega) | (have := I _ _ hj hb e; omega) | (have := I _ _ hi hb e; omega) | (have := I _ _ ha hi e; omega) | (have := I _ _ ha hj e; omega) | (have := I _ _ ha hb e; omega))
      | (have := I _ _ hi hj e; omega) | (have := I _ _ hj hi e; omega) | (have := I _ _ hj hb e; omega) | (have := I _ _ hi hb e; omega) | (have := I _ _ ha hi e; omega) | (have := I _ _ ha hj e; omega) | (have := I _ _ ha hb e; omega)

theorem Mem.push {f : Nat → Nat} {n x : Nat} {P Q : Nat → Prop} (h : Mem f n P) (hx : ¬ P x) (hQ : ∀ i, Q i ↔ P i ∨ i = x) : Mem (ad f n x) (n + 1) Q := by
  refine ⟨fun j hj => ?_, fun i hi => ?_, fun a b ha hb e => ?_⟩
  · show Q (if j = n then x else f j)
    by_cases e : j = n
    · rw [if_pos e, hQ]; exact .inr rfl
    · rw [if_neg e, hQ]; exact .inl (h.mem j (by omega))
  · rcases (hQ i).1 hi with h1 | h1
    · obtain ⟨j, h2, h3⟩ := h.all i h1
      exact ⟨j, by omega, by show (if j = n then x else f j) = i; rw [if_neg (by omega)]; exact h3⟩
    · exact ⟨n, by omega, by show (if n = n then x else f n) = i; rw [if_pos rfl]; exact h1.symm⟩
  · have e : (if a = n then x else f a) = (if b = n then x else f b) := e
    by_cases e1 : a = n <;> by_cases e2 : b = n
    · omega
    · rw [if_pos e1, if_neg e2] at e; exact absurd (e ▸ h.mem b (by omega)) hx
    · rw [if_neg e1, if_pos e2] at e; exact absurd (e ▸ h.mem a (by omega)) hx
    · rw [if_neg e1, if_neg e2] at e; exact h.inj a b (by omega) (by omega) e

/-- The last place left out. -/
theorem Mem.pop {f : Nat → Nat} {n : Nat} {P Q : Nat → Prop} (h : Mem f (n + 1) P) (hQ : ∀ i, Q i ↔ P i ∧ i ≠ f n) : Mem f n Q := by
  refine ⟨fun j hj => ?_, fun i hi => ?_, fun a b ha hb e => h.inj a b (by omega) (by omega) e⟩
  · rw [hQ]; exact ⟨h.mem j (by omega), fun e => by have := h.inj j n (by omega) (by omega) e; omega⟩
  · obtain ⟨h1, h2⟩ := (hQ i).1 hi
    obtain ⟨j, h3, h4⟩ := h.all i h1
    refine ⟨j, ?_, h4⟩
    rcases Nat.lt_or_ge j n with h5 | h5
    · exact h5
    · have : j = n := by omega
      subst this; exact absurd h4.symm h2
end Go.Proofs.Qxb6616981a.Hp
