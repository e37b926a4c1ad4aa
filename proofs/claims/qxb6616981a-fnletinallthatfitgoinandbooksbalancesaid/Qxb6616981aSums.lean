/-
  The plain facts that the first law tests.
-/
import Derived.Test.Qxb6616981aTop
namespace Go.Proofs.Qxb6616981a

theorem all_ready {pr : Prm} {s0 st : A} (hd : Dom pr) (hk : Kept pr s0 st) (hp : Pick pr st none) (h1 : s0.held + sm pr.sz pr.K ≤ pr.room) (h2 : s0.lheld + sm (fun i => if pr.lg i then pr.sz i else 0) pr.K ≤ pr.lroom) : ∀ i, st.wt i = false := by
  refine (done_what hp).2.2 fun i hi => ?_
  have hiK := hk.lt i hi
  have e1 := sm_one (f := fun i => if st.wt i then 0 else pr.sz i) (g := fun j => if st.wt j && decide (j ≠ i) then 0 else pr.sz j) (x := i) (d := pr.sz i) (by simp [hi]) (fun j hj => by simp [hj]) pr.K hiK
  have l1 : sm (fun j => if st.wt j && decide (j ≠ i) then 0 else pr.sz j) pr.K ≤ sm pr.sz pr.K := sm_le fun j hj => by
    have := hd.sz0 j hj
    split <;> omega
  have e2 := sm_one (f := fun i => if st.wt i then 0 else if pr.lg i then pr.sz i else 0) (g := fun j => if st.wt j && decide (j ≠ i) then 0 else if pr.lg j then pr.sz j else 0) (x := i) (d := if pr.lg i then pr.sz i else 0) (by simp [hi]) (fun j hj => by simp [hj]) pr.K hiK
  have l2 : sm (fun j => if st.wt j && decide (j ≠ i) then 0 else if pr.lg j then pr.sz j else 0) pr.K ≤ sm (fun i => if pr.lg i then pr.sz i else 0) pr.K := sm_le fun j hj => by
    have := hd.sz0 j hj
    split <;> split <;> omega
  have s1 := hk.sum
  have s2 := hk.lsum
  simp only [fits, Bool.and_eq_true, Bool.or_eq_true, decide_eq_true_eq]
  refine ⟨by omega, ?_⟩
  by_cases e : pr.small < pr.sz i
  · have hl : pr.lg i = true := by simp [Prm.lg, e]
    rw [hl] at e2; simp only [if_true] at e2
    right; omega
  · left; omega

/-- The four sums, step by step. -/
theorem sm_succ (g : Nat → Int) (k : Nat) : sm g (k + 1) = sm g k + g k := rfl
end Go.Proofs.Qxb6616981a
