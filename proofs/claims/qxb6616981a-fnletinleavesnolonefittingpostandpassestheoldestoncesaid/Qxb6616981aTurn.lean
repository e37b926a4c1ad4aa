/-
  The plain facts that the second law tests.
-/
import Derived.Test.Qxb6616981aTop
namespace Go.Proofs.Qxb6616981a

theorem heads_facts {pr : Prm} {s0 st : A} {l : Bool} {x y : Int} (hw : ∀ i, s0.wt i = decide (i < pr.K)) (hk : Kept pr s0 st) (hh : Heads pr.sz pr.small l pr.K x y) :
    (cnt (goneP pr st l) pr.K = 0 ∨ ∃ m : Nat, m < pr.K ∧ (if s0.fl l then x else y) = m ∧ st.wt m = false)
    ∧ (x = -1 ∨ ∃ f : Nat, f < pr.K ∧ x = f ∧ (st.wt f = false ∨ (st.wt f = true ∧ (cnt (goneP pr st l) pr.K = 0 ∨ (cnt (goneP pr st l) pr.K = 1 ∧ s0.fl l = false))))) := by
  have hP : ∀ j, P pr s0 l j = true ↔ j < pr.K ∧ decide (pr.small < pr.sz j) = l := fun j => by
    unfold P Prm.lg; rw [hw]; simp
  rcases hh with ⟨h1, rfl, rfl⟩ | ⟨f, b, rfl, rfl, h3, h4, h5, h6, h7, h8⟩
  · refine ⟨.inl (cnt_zero fun i hi => ?_), .inl rfl⟩
    have := h1 i hi
    unfold goneP Prm.lg
    have e : (decide (pr.small < pr.sz i) == l) = false := by rw [beq_eq_false_iff_ne]; exact this
    rw [e]; simp
  · have hold : IsOld pr s0 l f := ⟨(hP f).2 ⟨h3, h5⟩, fun j hj => h7 j ((hP j).1 hj).1 ((hP j).1 hj).2⟩
    constructor
    · obtain ⟨m, hm, hmx, hnx⟩ : ∃ m : Nat, m < pr.K ∧ (if s0.fl l then (f : Int) else (b : Int)) = m ∧ IsNext pr s0 l m := by
        cases e : s0.fl l with
        | true => exact ⟨f, h3, by simp, hold.1, fun j hj => by rw [e]; simp; exact hold.2 j hj⟩
        | false => exact ⟨b, h4, by simp, (hP b).2 ⟨h4, h6⟩, fun j hj => by rw [e]; simp; exact h8 j ((hP j).1 hj).1 ((hP j).1 hj).2⟩
      rcases hk.next l m hnx with h | ⟨_, h⟩
      · exact .inr ⟨m, hm, hmx, h⟩
      · exact .inl h
    · refine .inr ⟨f, h3, rfl, ?_⟩
      cases e : st.wt f with
      | false => exact .inl rfl
      | true =>
        rcases hk.old l f hold e with ⟨_, h⟩ | ⟨_, h, h'⟩
        · exact .inr ⟨rfl, .inl h⟩
        · exact .inr ⟨rfl, .inr ⟨h', h⟩⟩

theorem enum_none {O : List Nat} {p : Nat → Bool} {K : Nat} (h : Enum O p K) (hO : O.length = 0) (hp : ∀ i, p i = true → i < K) : ∀ i, p i = false := fun i => by
  cases e : p i with
  | false => rfl
  | true =>
    have := cnt_pos (hp i e) e
    have := h.len
    omega

theorem enum_next {pr : Prm} {st : A} {l : Bool} {O : List Nat} {i : Nat} (h : Enum O (P pr st l) pr.K) (hp : ∀ i, P pr st l i = true → i < pr.K) (hi : i < O.length) (hx : if st.fl l then i = 0 else ∀ j, j < O.length → ¬ Hp.lt pr.sz (O.getD j 0) (O.getD i 0)) : IsNext pr st l (O.getD i 0) := by
  obtain ⟨h1, h2, h3⟩ := h.mem i hi
  refine ⟨h1, fun j hj => ?_⟩
  obtain ⟨a1, a2⟩ := h.at_ hj (hp j hj)
  cases e : st.fl l with
  | true =>
    rw [e] at hx; simp only [if_true] at hx
    simp only [if_true]
    rcases Nat.lt_or_ge j (O.getD i 0) with q | q
    · have : cnt (P pr st l) (j + 1) ≤ cnt (P pr st l) (O.getD i 0) := cnt_mono q
      rw [cnt, hj] at this; simp only [if_true] at this
      omega
    · exact q
  | false =>
    rw [e] at hx; simp only [Bool.false_eq_true, if_false] at hx ⊢
    have := hx _ a1
    rw [a2] at this
    exact this

theorem lone_small {pr : Prm} {st : A} {z : Nat} (hp : Pick pr st none) (hl : ∀ j, P pr st true j = false) (hz : IsNext pr st false z) : ¬ st.held + pr.sz z ≤ pr.room := by
  have h := (done_what hp).1 z hz hl
  have k := (P_kind hz.1).2
  have : pr.sz z ≤ pr.small := by simp [Prm.lg] at k; omega
  intro e
  simp [fits, e, this] at h

theorem lone_large {pr : Prm} {st : A} {z : Nat} (hp : Pick pr st none) (hl : ∀ j, P pr st false j = false) (hz : IsNext pr st true z) : ¬ (st.held + pr.sz z ≤ pr.room ∧ st.lheld + pr.sz z ≤ pr.lroom) := by
  have h := (done_what hp).2.1 z hz hl
  rintro ⟨e1, e2⟩
  simp [fits, e1, e2] at h
end Go.Proofs.Qxb6616981a
