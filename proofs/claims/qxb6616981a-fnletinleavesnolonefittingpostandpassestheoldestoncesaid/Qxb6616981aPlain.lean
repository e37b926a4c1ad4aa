/-
  THE PLAIN LAW OF letIn: neighbours in a lane, counts, sums, and what one letIn after another does; no Go in sight.
-/
import Derived.Test.Qxb6616981aHeapLaw
namespace Go.Proofs.Qxb6616981a
open Hp (lt)

/-! Neighbours: 0 is the root as the start, i + 1 the post i, K + 1 the root as the end. -/
def adj (P : Nat → Bool) (K a b : Nat) : Prop := a < b ∧ b ≤ K + 1 ∧ (a = 0 ∨ P (a - 1) = true) ∧ (b = K + 1 ∨ P (b - 1) = true) ∧ ∀ c, a < c → c < b → P (c - 1) = false

theorem adj_succ (P : Nat → Bool) (K a : Nat) (ha : a ≤ K) (h : a = 0 ∨ P (a - 1) = true) : ∃ b, adj P K a b := by
  have key : ∀ d b, b + d = K + 1 → a < b → (∀ c, a < c → c < b → P (c - 1) = false) → ∃ b, adj P K a b := by
    intro d
    induction d with
    | zero => intro b h1 h2 h3; exact ⟨b, h2, by omega, h, .inl (by omega), h3⟩
    | succ d ih =>
      intro b h1 h2 h3
      cases e : P (b - 1) with
      | true => exact ⟨b, h2, by omega, h, .inr e, h3⟩
      | false =>
        refine ih (b + 1) (by omega) (by omega) fun c c1 c2 => ?_
        by_cases e2 : c = b
        · subst e2; exact e
        · exact h3 c c1 (by omega)
  exact key (K - a) (a + 1) (by omega) (by omega) (fun c c1 c2 => by omega)

theorem adj_pred (P : Nat → Bool) (K b : Nat) (h0 : 0 < b) (hb : b ≤ K + 1) (h : b = K + 1 ∨ P (b - 1) = true) : ∃ a, adj P K a b := by
  have key : ∀ a, a < b → (∀ c, a < c → c < b → P (c - 1) = false) → ∃ a, adj P K a b := by
    intro a
    induction a with
    | zero => intro h2 h3; exact ⟨0, h2, hb, .inl rfl, h, h3⟩
    | succ a ih =>
      intro h2 h3
      cases e : P a with
      | true => exact ⟨a + 1, h2, hb, .inr (by simpa using e), h, h3⟩
      | false =>
        refine ih (by omega) fun c c1 c2 => ?_
        by_cases e2 : c = a + 1
        · subst e2; simpa using e
        · exact h3 c (by omega) c2
  exact key (b - 1) (by omega) (fun c c1 c2 => by omega)

theorem adj_r {P : Nat → Bool} {K a b b' : Nat} (h : adj P K a b) (h' : adj P K a b') : b = b' := by
  obtain ⟨h1, h2, h3, h4, h5⟩ := h
  obtain ⟨g1, g2, g3, g4, g5⟩ := h'
  rcases Nat.lt_trichotomy b b' with e | e | e
  · have := g5 b h1 e
    rcases h4 with h4 | h4
    · omega
    · rw [h4] at this; cases this
  · exact e
  · have := h5 b' g1 e
    rcases g4 with g4 | g4
    · omega
    · rw [g4] at this; cases this

theorem adj_remove {P Q : Nat → Bool} {K x a0 b0 a b : Nat} (hx : x < K) (hQ : ∀ i, Q i = (P i && decide (i ≠ x))) (h0 : adj P K a0 (x + 1)) (h1 : adj P K (x + 1) b0) (h : adj Q K a b) :
    (a = a0 ∧ b = b0) ∨ (adj P K a b ∧ a ≠ a0 ∧ b ≠ b0 ∧ a ≠ x + 1 ∧ b ≠ x + 1) := by
  have QP : ∀ i, Q i = true → P i = true ∧ i ≠ x := fun i hi => by rw [hQ] at hi; simpa using hi
  have PQ : ∀ i, P i = true → i ≠ x → Q i = true := fun i hi hn => by rw [hQ]; simp [hi, hn]
  have NP : ∀ i, P i = true → P i = false → False := fun i a b => by rw [a] at b; cases b
  obtain ⟨c1, c2, c3, c4, c5⟩ := h
  obtain ⟨d1, d2, d3, d4, d5⟩ := h0
  obtain ⟨e1, e2, e3, e4, e5⟩ := h1
  have ha : a ≠ x + 1 := by
    rintro rfl
    rcases c3 with c3 | c3
    · omega
    · exact (QP _ c3).2 (by omega)
  have hb : b ≠ x + 1 := by
    rintro rfl
    rcases c4 with c4 | c4
    · omega
    · exact (QP _ c4).2 (by omega)
  have c3' : a = 0 ∨ P (a - 1) = true := c3.imp_right (fun h => (QP _ h).1)
  have c4' : b = K + 1 ∨ P (b - 1) = true := c4.imp_right (fun h => (QP _ h).1)
  have c5' : ∀ c, a < c → c < b → c ≠ x + 1 → P (c - 1) = true → False := fun c h1 h2 h3 h4 => by
    have := PQ _ h4 (by omega)
    rw [c5 c h1 h2] at this; cases this
  by_cases hm : a < x + 1 ∧ x + 1 < b
  · left
    constructor
    · rcases Nat.lt_trichotomy a a0 with e | e | e
      · exfalso
        rcases d3 with d3 | d3
        · omega
        · exact c5' a0 e (by omega) (by omega) d3
      · exact e
      · exfalso
        rcases c3' with c3' | c3'
        · omega
        · exact NP _ c3' (d5 a e hm.1)
    · rcases Nat.lt_trichotomy b b0 with e | e | e
      · exfalso
        rcases c4' with c4' | c4'
        · omega
        · exact NP _ c4' (e5 b hm.2 e)
      · exact e
      · exfalso
        rcases e4 with e4 | e4
        · omega
        · exact c5' b0 (by omega) e (by omega) e4
  · right
    refine ⟨⟨c1, c2, c3', c4', fun c h1 h2 => ?_⟩, ?_, ?_, ha, hb⟩
    · cases h4 : P (c - 1) with
      | false => rfl
      | true => exact (c5' c h1 h2 (by omega) h4).elim
    · rintro rfl
      have : b < x + 1 := by omega
      rcases c4' with h | h
      · omega
      · exact NP _ h (d5 b c1 this)
    · rintro rfl
      have : x + 1 < a := by omega
      rcases c3' with h | h
      · omega
      · exact NP _ h (e5 a this c1)

theorem adj_push {P Q : Nat → Bool} {K x a0 a b : Nat} (hx : x < K) (hP : ∀ i, P i = true → i < x) (hQ : ∀ i, Q i = (P i || decide (i = x))) (h0 : adj P K a0 (K + 1)) (h : adj Q K a b) :
    (a = a0 ∧ b = x + 1) ∨ (a = x + 1 ∧ b = K + 1) ∨ (adj P K a b ∧ b ≠ K + 1 ∧ a ≠ a0 ∧ a ≠ x + 1 ∧ b ≠ x + 1) := by
  have QP : ∀ i, Q i = true → P i = true ∨ i = x := fun i hi => by rw [hQ] at hi; simpa using hi
  have PQ : ∀ i, P i = true → Q i = true := fun i hi => by rw [hQ]; simp [hi]
  have Qx : Q x = true := by rw [hQ]; simp
  have NP : ∀ i, P i = true → P i = false → False := fun i a b => by rw [a] at b; cases b
  have NQ : ∀ i, Q i = true → Q i = false → False := fun i a b => by rw [a] at b; cases b
  obtain ⟨c1, c2, c3, c4, c5⟩ := h
  obtain ⟨d1, d2, d3, d4, d5⟩ := h0
  have a0x : a0 ≤ x := by
    rcases d3 with h | h
    · omega
    · have := hP _ h; omega
  by_cases ea : a = x + 1
  · right; left
    refine ⟨ea, ?_⟩
    rcases c4 with h | h
    · exact h
    · rcases QP _ h with h | h
      · have := hP _ h; omega
      · omega
  · have c3' : a = 0 ∨ P (a - 1) = true := by
      rcases c3 with h | h
      · exact .inl h
      · rcases QP _ h with h | h
        · exact .inr h
        · by_cases e : a = 0
          · exact .inl e
          · omega
    have ax : a ≤ x := by
      rcases c3' with h | h
      · omega
      · have := hP _ h; omega
    have bx : b ≤ x + 1 := by
      rcases Nat.lt_or_ge (x + 1) b with e | e
      · exact (NQ _ Qx (c5 (x + 1) (by omega) e)).elim
      · exact e
    by_cases eb : b = x + 1
    · left
      refine ⟨?_, eb⟩
      rcases Nat.lt_trichotomy a a0 with e | e | e
      · rcases d3 with h | h
        · omega
        · exact (NQ _ (PQ _ h) (c5 a0 e (by omega))).elim
      · exact e
      · rcases c3' with h | h
        · omega
        · exact (NP _ h (d5 a e (by omega))).elim
    · right; right
      have hb : P (b - 1) = true := by
        rcases c4 with h | h
        · omega
        · rcases QP _ h with h | h
          · exact h
          · omega
      refine ⟨⟨c1, c2, c3', .inr hb, fun c h1 h2 => ?_⟩, by omega, ?_, ea, eb⟩
      · cases e : P (c - 1) with
        | false => rfl
        | true => exact (NQ _ (PQ _ e) (c5 c h1 h2)).elim
      · rintro rfl
        exact NP _ hb (d5 b c1 (by omega))

theorem adj_empty {P : Nat → Bool} {K x a b : Nat} (hx : x < K) (hQ : ∀ i, P i = decide (i = x)) (h : adj P K a b) : (a = 0 ∧ b = x + 1) ∨ (a = x + 1 ∧ b = K + 1) := by
  rcases adj_push (P := fun _ => false) (a0 := 0) hx (fun i h => by cases h) (fun i => by rw [hQ]; simp) ⟨by omega, by omega, .inl rfl, .inl rfl, fun _ _ _ => rfl⟩ h with h | h | ⟨h, h1, h2, _⟩
  · exact .inl h
  · exact .inr h
  · obtain ⟨_, _, h3, _⟩ := h
    rcases h3 with h3 | h3
    · exact absurd h3 h2
    · cases h3

/-! Counts and sums. -/
def cnt (P : Nat → Bool) : Nat → Nat
  | 0 => 0
  | k + 1 => cnt P k + if P k then 1 else 0
def sm (g : Nat → Int) : Nat → Int
  | 0 => 0
  | k + 1 => sm g k + g k

theorem cnt_congr {P Q : Nat → Bool} {k : Nat} (h : ∀ i, i < k → P i = Q i) : cnt P k = cnt Q k := by
  induction k with
  | zero => rfl
  | succ k ih => rw [cnt, cnt, ih (fun i hi => h i (by omega)), h k (by omega)]
theorem sm_congr {f g : Nat → Int} {k : Nat} (h : ∀ i, i < k → f i = g i) : sm f k = sm g k := by
  induction k with
  | zero => rfl
  | succ k ih => rw [sm, sm, ih (fun i hi => h i (by omega)), h k (by omega)]
theorem cnt_one {P Q : Nat → Bool} {x : Nat} (hx : P x = false) (hq : Q x = true) (h : ∀ i, i ≠ x → Q i = P i) : ∀ k, x < k → cnt Q k = cnt P k + 1 := by
  intro k
  induction k with
  | zero => intro h; omega
  | succ k ih =>
    intro hk
    by_cases e : x = k
    · subst e
      rw [cnt, cnt, cnt_congr (P := Q) (Q := P) (fun i hi => h i (by omega)), hx, hq]; simp
    · rw [cnt, cnt, ih (by omega), h k (fun h => e h.symm)]; omega
theorem sm_one {f g : Nat → Int} {x : Nat} {d : Int} (hx : g x = f x + d) (h : ∀ i, i ≠ x → g i = f i) : ∀ k, x < k → sm g k = sm f k + d := by
  intro k
  induction k with
  | zero => intro h; omega
  | succ k ih =>
    intro hk
    by_cases e : x = k
    · subst e
      rw [sm, sm, sm_congr (f := g) (g := f) (fun i hi => h i (by omega)), hx]; omega
    · rw [sm, sm, ih (by omega), h k (fun h => e h.symm)]; omega
theorem sm_le {f g : Nat → Int} {k : Nat} (h : ∀ i, i < k → f i ≤ g i) : sm f k ≤ sm g k := by
  induction k with
  | zero => exact Int.le_refl _
  | succ k ih => have h1 := ih (fun i hi => h i (by omega)); have h2 := h k (by omega); rw [sm, sm]; omega
theorem cnt_le {P : Nat → Bool} {k : Nat} : cnt P k ≤ k := by
  induction k with
  | zero => exact Nat.le_refl _
  | succ k ih => rw [cnt]; split <;> omega
theorem cnt_mono {P : Nat → Bool} {j k : Nat} (h : j ≤ k) : cnt P j ≤ cnt P k := by
  induction k with
  | zero => have : j = 0 := by omega
            subst this; exact Nat.le_refl _
  | succ k ih =>
    by_cases e : j = k + 1
    · subst e; exact Nat.le_refl _
    · rw [cnt]; have := ih (by omega); omega
theorem cnt_zero {P : Nat → Bool} {k : Nat} (h : ∀ i, i < k → P i = false) : cnt P k = 0 := by
  induction k with
  | zero => rfl
  | succ k ih => rw [cnt, ih (fun i hi => h i (by omega)), h k (by omega)]; rfl
theorem cnt_pos {P : Nat → Bool} {i k : Nat} (hi : i < k) (h : P i = true) : 0 < cnt P k := by
  have h1 : cnt P (i + 1) ≤ cnt P k := cnt_mono hi
  rw [cnt, h] at h1; simp at h1; omega

/-! letIn. -/
structure A where
  wt : Nat → Bool
  held : Int
  lheld : Int
  fl : Bool → Bool

structure Prm where
  K : Nat
  sz : Nat → Int
  small : Int
  room : Int
  lroom : Int

def Prm.lg (p : Prm) (i : Nat) : Bool := decide (p.small < p.sz i)
def P (p : Prm) (st : A) (l : Bool) (i : Nat) : Bool := st.wt i && (p.lg i == l)
def fits (p : Prm) (st : A) (s : Int) : Bool := decide (st.held + s ≤ p.room) && (decide (s ≤ p.small) || decide (st.lheld + s ≤ p.lroom))
def IsOld (p : Prm) (st : A) (l : Bool) (i : Nat) : Prop := P p st l i = true ∧ ∀ j, P p st l j = true → i ≤ j
def IsNext (p : Prm) (st : A) (l : Bool) (i : Nat) : Prop := P p st l i = true ∧ ∀ j, P p st l j = true → if st.fl l then i ≤ j else ¬ lt p.sz j i
def NX (p : Prm) (st : A) (l : Bool) : Option Nat → Prop
  | none => ∀ j, P p st l j = false
  | some i => IsNext p st l i
def choose (p : Prm) (st : A) (s l : Option Nat) (old : Nat) : Option Nat :=
  match l, s with
  | none, none => none
  | none, some s => if fits p st (p.sz s) then some s else none
  | some l, none => if fits p st (p.sz l) then some l else none
  | some l, some s =>
    if l < old then (if fits p st (p.sz l) then some l else if st.held - st.lheld + p.sz s ≤ p.room - p.lroom then some s else none)
    else if fits p st (p.sz s) then some s else none
def Pick (p : Prm) (st : A) (o : Option Nat) : Prop := ∃ s l old, NX p st false s ∧ NX p st true l ∧ (s ≠ none → IsOld p st false old) ∧ o = choose p st s l old
def ub (f : Bool → Bool) (l v : Bool) : Bool → Bool := fun x => if x = l then v else f x
def after (p : Prm) (st : A) (i old : Nat) : A :=
  { wt := fun j => st.wt j && decide (j ≠ i)
    held := st.held + p.sz i
    lheld := st.lheld + if p.lg i then p.sz i else 0
    fl := ub st.fl (p.lg i) (decide (i ≠ old)) }
inductive Step (p : Prm) (st : A) : A → Prop
  | mk (i old : Nat) : Pick p st (some i) → IsOld p st (p.lg i) old → Step p st (after p st i old)
inductive Steps (p : Prm) (st : A) : A → Prop
  | refl : Steps p st st
  | tail {b c : A} : Steps p st b → Step p b c → Steps p st c

variable {p : Prm} {st st' : A}

theorem P_kind {l : Bool} {i : Nat} (h : P p st l i = true) : st.wt i = true ∧ p.lg i = l := by
  unfold P at h; simpa using h
theorem P_mk {i : Nat} (h : st.wt i = true) : P p st (p.lg i) i = true := by
  unfold P; simp [h]
theorem nx_uniq {l : Bool} {o o' : Option Nat} (h : NX p st l o) (h' : NX p st l o') : o = o' := by
  cases o with
  | none =>
    cases o' with
    | none => rfl
    | some j => have h1 := h j; rw [h'.1] at h1; cases h1
  | some i =>
    cases o' with
    | none => have h1 := h' i; rw [h.1] at h1; cases h1
    | some j =>
      have h1 := h.2 j h'.1
      have h2 := h'.2 i h.1
      cases e : st.fl l with
      | true => rw [e] at h1 h2; simp at h1 h2; rw [Nat.le_antisymm h1 h2]
      | false => rw [e] at h1 h2; simp at h1 h2; rw [Hp.lt_or h2 h1]
theorem old_uniq {l : Bool} {i j : Nat} (h : IsOld p st l i) (h' : IsOld p st l j) : i = j := Nat.le_antisymm (h.2 j h'.1) (h'.2 i h.1)
theorem pick_uniq {o o' : Option Nat} (h : Pick p st o) (h' : Pick p st o') : o = o' := by
  obtain ⟨s, l, d, a1, a2, a3, a4⟩ := h
  obtain ⟨s', l', d', b1, b2, b3, b4⟩ := h'
  obtain rfl := nx_uniq a1 b1
  obtain rfl := nx_uniq a2 b2
  rw [a4, b4]
  cases s with
  | none => cases l <;> rfl
  | some s => rw [old_uniq (a3 (by simp)) (b3 (by simp))]

theorem done_stays (h : Pick p st none) (hs : Steps p st st') : st' = st := by
  induction hs with
  | refl => rfl
  | tail h1 h2 ih =>
    subst ih
    cases h2 with
    | mk i old hp _ => cases pick_uniq h hp

/-- What a pick is: the next of its lane, and it fits or takes kept room. -/
theorem pick_some {i : Nat} (h : Pick p st (some i)) : IsNext p st (p.lg i) i ∧ (fits p st (p.sz i) = true ∨ (p.lg i = false ∧ st.held - st.lheld + p.sz i ≤ p.room - p.lroom)) := by
  obtain ⟨s, l, d, a1, a2, a3, a4⟩ := h
  have hS : ∀ s', s = some s' → IsNext p st (p.lg s') s' ∧ p.lg s' = false := fun s' e => by
    subst e; have := (P_kind a1.1).2; exact ⟨by rw [this]; exact a1, this⟩
  have hL : ∀ s', l = some s' → IsNext p st (p.lg s') s' := fun s' e => by
    subst e; have := (P_kind a2.1).2; rw [this]; exact a2
  cases l with
  | none =>
    cases s with
    | none => cases a4
    | some s =>
      simp only [choose] at a4
      split at a4
      · cases a4; rename_i hf; exact ⟨(hS _ rfl).1, .inl hf⟩
      · cases a4
  | some l =>
    cases s with
    | none =>
      simp only [choose] at a4
      split at a4
      · cases a4; rename_i hf; exact ⟨hL _ rfl, .inl hf⟩
      · cases a4
    | some s =>
      simp only [choose] at a4
      split at a4
      · split at a4
        · cases a4; rename_i hf; exact ⟨hL _ rfl, .inl hf⟩
        · split at a4
          · cases a4; rename_i hf; exact ⟨(hS _ rfl).1, .inr ⟨(hS _ rfl).2, hf⟩⟩
          · cases a4
      · split at a4
        · cases a4; rename_i hf; exact ⟨(hS _ rfl).1, .inl hf⟩
        · cases a4

/-- What done is. -/
theorem done_what (h : Pick p st none) :
    (∀ i, IsNext p st false i → (∀ j, P p st true j = false) → fits p st (p.sz i) = false) ∧ (∀ i, IsNext p st true i → (∀ j, P p st false j = false) → fits p st (p.sz i) = false)
    ∧ ((∀ i, st.wt i = true → fits p st (p.sz i) = true) → ∀ i, st.wt i = false) := by
  obtain ⟨s, l, d, a1, a2, a3, a4⟩ := h
  have nb : ∀ b : Bool, ¬ b = true → b = false := fun b h => by cases b <;> simp_all
  refine ⟨fun i hi hl => ?_, fun i hi hs => ?_, fun hall i => ?_⟩
  · obtain rfl := nx_uniq (o' := some i) a1 hi
    obtain rfl := nx_uniq (o' := none) a2 hl
    simp only [choose] at a4
    split at a4
    · cases a4
    · rename_i h; exact nb _ h
  · obtain rfl := nx_uniq (o' := some i) a2 hi
    obtain rfl := nx_uniq (o' := none) a1 hs
    simp only [choose] at a4
    split at a4
    · cases a4
    · rename_i h; exact nb _ h
  · have hS : ∀ s', s = some s' → fits p st (p.sz s') = true := fun s' e => by subst e; exact hall _ (P_kind a1.1).1
    have hL : ∀ s', l = some s' → fits p st (p.sz s') = true := fun s' e => by subst e; exact hall _ (P_kind a2.1).1
    cases l with
    | none =>
      cases s with
      | none =>
        cases e : st.wt i with
        | false => rfl
        | true =>
          have h1 := P_mk (p := p) e
          cases e2 : p.lg i with
          | false => rw [e2] at h1; rw [a1 i] at h1; cases h1
          | true => rw [e2] at h1; rw [a2 i] at h1; cases h1
      | some s => simp [choose, hS _ rfl] at a4
    | some l =>
      cases s with
      | none => simp [choose, hL _ rfl] at a4
      | some s =>
        simp only [choose, hL _ rfl, hS _ rfl] at a4
        split at a4 <;> simp at a4

def goneP (p : Prm) (st : A) (l : Bool) (i : Nat) : Bool := !st.wt i && (p.lg i == l)

/-- What every run keeps. st0: all wait. -/
structure Kept (p : Prm) (st0 st : A) : Prop where
  lt : ∀ i, st.wt i = true → i < p.K
  sum : st.held = st0.held + sm (fun i => if st.wt i then 0 else p.sz i) p.K
  lsum : st.lheld = st0.lheld + sm (fun i => if st.wt i then 0 else if p.lg i then p.sz i else 0) p.K
  le : st.held ≤ p.room
  lle : st.lheld ≤ p.lroom
  next : ∀ l i, IsNext p st0 l i → (st.wt i = false ∨ (st.fl l = st0.fl l ∧ cnt (goneP p st l) p.K = 0))
  old : ∀ l i, IsOld p st0 l i → st.wt i = true → (st.fl l = st0.fl l ∧ cnt (goneP p st l) p.K = 0) ∨ (st.fl l = true ∧ st0.fl l = false ∧ cnt (goneP p st l) p.K = 1)

theorem wt_of_cnt {l : Bool} {i : Nat} (hi : i < p.K) (h : cnt (goneP p st l) p.K = 0) (hk : p.lg i = l) : st.wt i = true := by
  cases e : st.wt i with
  | true => rfl
  | false =>
    have : goneP p st l i = true := by simp [goneP, e, hk]
    have := cnt_pos hi this
    omega

theorem kept_start (hw : ∀ i, st.wt i = decide (i < p.K)) (h1 : st.held ≤ p.room) (h2 : st.lheld ≤ p.lroom) : Kept p st st := by
  have hz : ∀ l, cnt (goneP p st l) p.K = 0 := fun l => cnt_zero fun i hi => by simp [goneP, hw, hi]
  refine ⟨fun i hi => by rw [hw] at hi; simpa using hi, ?_, ?_, h1, h2, fun l i _ => .inr ⟨rfl, hz l⟩, fun l i _ _ => .inl ⟨rfl, hz l⟩⟩
  · rw [sm_congr (g := fun _ => 0) (fun i hi => by simp [hw, hi])]
    have : ∀ k, sm (fun _ => 0) k = 0 := fun k => by induction k with | zero => rfl | succ k ih => rw [sm, ih]; rfl
    rw [this]; omega
  · rw [sm_congr (g := fun _ => 0) (fun i hi => by simp [hw, hi])]
    have : ∀ k, sm (fun _ => 0) k = 0 := fun k => by induction k with | zero => rfl | succ k ih => rw [sm, ih]; rfl
    rw [this]; omega

theorem kept_step {st0 : A} (hw : ∀ i, st0.wt i = decide (i < p.K)) (h : Kept p st0 st) (hs : Step p st st') : Kept p st0 st' := by
  cases hs with
  | mk i old hp ho =>
    obtain ⟨hn, hf⟩ := pick_some hp
    have hwi : st.wt i = true := (P_kind hn.1).1
    have hik : i < p.K := h.lt i hwi
    have hfit : st.held + p.sz i ≤ p.room ∧ st.lheld + (if p.lg i then p.sz i else 0) ≤ p.lroom := by
      have a := h.le
      have b := h.lle
      rcases hf with hf | ⟨h1, h2⟩
      · simp only [fits, Bool.and_eq_true, Bool.or_eq_true, decide_eq_true_eq] at hf
        refine ⟨hf.1, ?_⟩
        by_cases e : p.small < p.sz i
        · have : p.lg i = true := by simp [Prm.lg, e]
          rw [this]; simp
          rcases hf.2 with h | h
          · omega
          · exact h
        · have : p.lg i = false := by simp [Prm.lg]; omega
          rw [this]; simp; exact b
      · rw [h1]; simp; omega
    have hcnt : ∀ l, cnt (goneP p (after p st i old) l) p.K = cnt (goneP p st l) p.K + if p.lg i = l then 1 else 0 := by
      intro l
      by_cases e : p.lg i = l
      · rw [if_pos e]
        refine cnt_one (x := i) ?_ ?_ ?_ p.K hik
        · simp [goneP, hwi]
        · simp [goneP, after, e]
        · intro j hj; simp [goneP, after, hj]
      · rw [if_neg e]
        refine cnt_congr fun j _ => ?_
        by_cases ej : j = i
        · subst ej
          have e' : (p.lg j == l) = false := by simpa using e
          simp [goneP, e']
        · simp [goneP, after, ej]
    have hfl : ∀ l, p.lg i ≠ l → (after p st i old).fl l = st.fl l := fun l e => by simp only [after, ub]; rw [if_neg (fun h => e h.symm)]
    refine ⟨fun j hj => ?_, ?_, ?_, hfit.1, hfit.2, fun l j hj => ?_, fun l j hj hwj => ?_⟩
    · simp [after] at hj; exact h.lt j hj.1
    · rw [sm_one (f := fun i => if st.wt i then 0 else p.sz i) (x := i) (d := p.sz i) (by simp [after, hwi]) (fun j hj => by simp [after, hj]) p.K hik]
      have := h.sum
      show st.held + p.sz i = _
      omega
    · rw [sm_one (f := fun i => if st.wt i then 0 else if p.lg i then p.sz i else 0) (x := i) (d := if p.lg i then p.sz i else 0) (by simp [after, hwi]) (fun j hj => by simp [after, hj]) p.K hik]
      have := h.lsum
      show st.lheld + (if p.lg i then p.sz i else 0) = _
      omega
    · rcases h.next l j hj with h1 | ⟨h1, h2⟩
      · left; simp [after, h1]
      · by_cases e : p.lg i = l
        · left
          have hsame : ∀ k, P p st l k = P p st0 l k := fun k => by
            unfold P
            cases ek : (p.lg k == l) with
            | false => simp
            | true =>
              simp
              rw [hw]
              cases ew : st.wt k with
              | true => have := h.lt k ew; simp [this]
              | false =>
                symm
                rw [decide_eq_false_iff_not]
                intro hk
                have := wt_of_cnt hk h2 (by simpa using ek)
                rw [ew] at this; cases this
          have hn' : IsNext p st0 l i := by
            rw [e] at hn
            refine ⟨by rw [← hsame]; exact hn.1, fun k hk => ?_⟩
            rw [← hsame] at hk
            have := hn.2 k hk
            rw [h1] at this
            exact this
          have := nx_uniq (o := some i) (o' := some j) hn' hj
          cases this
          simp [after]
        · right
          rw [hfl l e, hcnt l, if_neg e]
          exact ⟨h1, by omega⟩
    · have hwj0 : st.wt j = true := by simp [after] at hwj; exact hwj.1
      have hji : j ≠ i := by simp [after] at hwj; exact hwj.2
      by_cases e : p.lg i = l
      · have hold : IsOld p st l j := by
          refine ⟨by have := P_mk (p := p) hwj0; rw [(P_kind hj.1).2] at this; exact this, fun k hk => hj.2 k ?_⟩
          obtain ⟨k1, k2⟩ := P_kind hk
          have := h.lt k k1
          simp [P, hw, this, k2]
        rw [e] at ho hn
        have hoj : old = j := old_uniq ho hold
        rcases h.old l j hj hwj0 with ⟨h1, h2⟩ | ⟨h1, h2, h3⟩
        · cases e0 : st.fl l with
          | true =>
            have := hn.2 j hold.1
            rw [e0] at this; simp at this
            have := hold.2 i hn.1
            omega
          | false =>
            right
            refine ⟨?_, by rw [← h1, e0], by rw [hcnt, if_pos e]; omega⟩
            simp [after, ub, e, hoj]; exact fun h => hji h.symm
        · have := hn.2 j hold.1
          rw [h1] at this; simp at this
          have := hold.2 i hn.1
          omega
      · rw [hfl l e, hcnt l, if_neg e]
        exact h.old l j hj hwj0

theorem kept_steps {st0 : A} (hw : ∀ i, st0.wt i = decide (i < p.K)) (h1 : st0.held ≤ p.room) (h2 : st0.lheld ≤ p.lroom) (h : Steps p st0 st) : Kept p st0 st := by
  induction h with
  | refl => exact kept_start hw h1 h2
  | tail _ hs ih => exact kept_step hw ih hs
end Go.Proofs.Qxb6616981a
