/-
  THE PLAIN LAW: the spare keycodes as a filtered run of numbers; what 'x11b1Edit' makes of such a list. No Go in sight.
-/
namespace Go.Proofs.Qxb6617836a.Pl

/-- What is left of the edit, the flag 'placed' as it stands. -/
def ed (k : Nat) : List Nat → Bool → List Nat
  | [], placed => if placed then [] else [k]
  | x :: xs, placed => if x = k then ed k xs placed else if placed = false ∧ k < x then k :: x :: ed k xs true else x :: ed k xs placed

theorem ed_true (k : Nat) : ∀ l, ed k l true = l.filter (fun x => decide (x ≠ k))
  | [] => rfl
  | x :: xs => by
    unfold ed
    by_cases h : x = k
    · rw [if_pos h, ed_true k xs, List.filter_cons_of_neg (by simp [h])]
    · rw [if_neg h, if_neg (by simp), ed_true k xs, List.filter_cons_of_pos (by simp [h])]

theorem ed_above (k : Nat) : ∀ l, (∀ x ∈ l, k < x) → ed k l false = k :: l
  | [], _ => rfl
  | x :: xs, h => by
    have hx := h x (List.mem_cons_self ..)
    unfold ed
    rw [if_neg (by omega), if_pos ⟨rfl, hx⟩, ed_true k xs, List.filter_eq_self.2]
    intro y hy
    have := h y (List.mem_cons_of_mem _ hy)
    simp; omega

def runP (P : Nat → Bool) (a c : Nat) : List Nat := (List.range' a c).filter P

theorem mem_runP {P : Nat → Bool} {a c x : Nat} (h : x ∈ runP P a c) : a ≤ x ∧ x < a + c := by
  unfold runP at h
  have := (List.mem_filter.1 h).1
  rw [List.mem_range'] at this
  omega

theorem ed_out (P : Nat → Bool) (k a c : Nat) : ed k (runP P a c) true = runP (fun x => decide (x ≠ k) && P x) a c := by
  rw [ed_true]; unfold runP; rw [List.filter_filter]

theorem runP_succ (P : Nat → Bool) (a c : Nat) : runP P a (c + 1) = if P a then a :: runP P (a + 1) c else runP P (a + 1) c := by
  unfold runP
  rw [List.range'_succ]
  by_cases h : P a = true
  · rw [List.filter_cons_of_pos h, if_pos h]
  · rw [List.filter_cons_of_neg h, if_neg h]

theorem runP_congr {P Q : Nat → Bool} {a c : Nat} (h : ∀ x, a ≤ x → x < a + c → P x = Q x) : runP P a c = runP Q a c := by
  unfold runP
  refine List.filter_congr ?_
  intro x hx
  rw [List.mem_range'] at hx
  exact h x (by omega) (by omega)

theorem ed_in (P : Nat → Bool) (k : Nat) : ∀ c a, a ≤ k → k < a + c → ed k (runP P a c) false = runP (fun x => decide (x = k) || P x) a c := by
  intro c
  induction c with
  | zero => intro a h1 h2; omega
  | succ c ih =>
    intro a h1 h2
    rw [runP_succ, runP_succ]
    by_cases e : a = k
    · subst e
      rw [if_pos (show (decide (a = a) || P a) = true by simp)]
      have habove : ∀ x ∈ runP P (a + 1) c, a < x := fun x hx => by have := mem_runP hx; omega
      have hcg : runP (fun x => decide (x = a) || P x) (a + 1) c = runP P (a + 1) c := runP_congr (fun x h3 _ => by
        have : decide (x = a) = false := by simp; omega
        rw [this, Bool.false_or])
      rw [hcg]
      by_cases hp : P a = true
      · rw [if_pos hp]
        unfold ed
        rw [if_pos rfl]
        exact ed_above a _ habove
      · rw [if_neg hp]
        exact ed_above a _ habove
    · have hd : decide (a = k) = false := by simp [e]
      rw [hd, Bool.false_or]
      by_cases hp : P a = true
      · rw [if_pos hp, if_pos hp]
        unfold ed
        rw [if_neg e, if_neg (by omega), ih (a + 1) (by omega) (by omega)]
      · rw [if_neg hp, if_neg hp]
        exact ih (a + 1) (by omega) (by omega)

/-- Row i of the keysyms is empty. -/
def emptyRow (fs : Nat → Int) (width i : Nat) : Nat → Bool
  | 0 => true
  | t + 1 => emptyRow fs width i t && (fs (i * width + t) == 0)

/-- The spare keycodes. -/
def spareL (first width c : Nat) (fs : Nat → Int) (mk : Nat → Bool) : List Nat :=
  runP (fun x => !mk x && emptyRow fs width (x - first) width) first c

theorem emptyRow_congr {fs gs : Nat → Int} {width i : Nat} : ∀ {t}, (∀ j, j < t → fs (i * width + j) = gs (i * width + j)) → emptyRow fs width i t = emptyRow gs width i t := by
  intro t
  induction t with
  | zero => intro _; rfl
  | succ t ih =>
    intro h
    unfold emptyRow
    rw [ih (fun j hj => h j (by omega)), h t (by omega)]

theorem emptyRow_true {fs : Nat → Int} {width i : Nat} : ∀ {t}, (∀ j, j < t → fs (i * width + j) = 0) → emptyRow fs width i t = true := by
  intro t
  induction t with
  | zero => intro _; rfl
  | succ t ih =>
    intro h
    unfold emptyRow
    rw [ih (fun j hj => h j (by omega)), h t (by omega)]; rfl

theorem emptyRow_false {fs : Nat → Int} {width i : Nat} : ∀ {t} j, j < t → fs (i * width + j) ≠ 0 → emptyRow fs width i t = false := by
  intro t
  induction t with
  | zero => intro j h; omega
  | succ t ih =>
    intro j h hne
    unfold emptyRow
    by_cases e : j = t
    · subst e
      have : (fs (i * width + j) == 0) = false := by simpa using hne
      rw [this, Bool.and_false]
    · rw [ih j (by omega) hne, Bool.false_and]

theorem row_apart (width i i' j j' : Nat) (hj : j < width) (hj' : j' < width) (h : i * width + j = i' * width + j') : i = i' := by
  have h1 : (i * width + j) / width = i := by rw [Nat.mul_comm, Nat.mul_add_div (by omega), Nat.div_eq_of_lt hj]; omega
  have h2 : (i' * width + j') / width = i' := by rw [Nat.mul_comm, Nat.mul_add_div (by omega), Nat.div_eq_of_lt hj']; omega
  rw [← h1, ← h2, h]

/-- THE LAW, first half: the row of k zeroed. -/
theorem law_cleared (first width c k : Nat) (fs gs : Nat → Int) (mk : Nat → Bool) (h1 : first ≤ k) (h2 : k < first + c)
    (hz : ∀ j, j < width → gs ((k - first) * width + j) = 0) (ho : ∀ i j, i ≠ k - first → j < width → gs (i * width + j) = fs (i * width + j)) :
    ed k (spareL first width c fs mk) (mk k) = spareL first width c gs mk := by
  have hcg : ∀ x, first ≤ x → x < first + c → x ≠ k → emptyRow gs width (x - first) width = emptyRow fs width (x - first) width := fun x a b e =>
    emptyRow_congr (fun j hj => ho (x - first) j (by omega) hj)
  have hk : emptyRow gs width (k - first) width = true := emptyRow_true hz
  unfold spareL
  cases hm : mk k with
  | true =>
    rw [ed_out]
    refine runP_congr (fun x a b => ?_)
    by_cases e : x = k
    · subst e; simp [hm]
    · simp [e, hcg x a b e]
  | false =>
    rw [ed_in _ k c first h1 h2]
    refine runP_congr (fun x a b => ?_)
    by_cases e : x = k
    · subst e; simp [hm, hk]
    · simp [e, hcg x a b e]

/-- Second half: a keysym put into that row. -/
theorem law_taken (first width c k : Nat) (fs gs : Nat → Int) (mk : Nat → Bool) (off : Nat) (hoff : off < width)
    (hz : gs ((k - first) * width + off) ≠ 0) (ho : ∀ i j, i ≠ k - first → j < width → gs (i * width + j) = fs (i * width + j)) (h1 : first ≤ k) :
    ed k (spareL first width c fs mk) true = spareL first width c gs mk := by
  unfold spareL
  rw [ed_out]
  refine runP_congr (fun x a b => ?_)
  by_cases e : x = k
  · subst e; simp [emptyRow_false off hoff hz]
  · have : emptyRow gs width (x - first) width = emptyRow fs width (x - first) width := emptyRow_congr (fun j hj => ho (x - first) j (by omega) hj)
    simp [e, this]

end Go.Proofs.Qxb6617836a.Pl
