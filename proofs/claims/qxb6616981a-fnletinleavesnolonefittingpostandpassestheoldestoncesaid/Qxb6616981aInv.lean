/-
  THE INTAKE ON THE TYPED CELLS, and what the steps of letIn's round do to it.
-/
import Derived.Test.Qxb6616981aRemove
import Derived.Test.Qxb6616981aReady
namespace Go.Proofs.Qxb6616981a
open Go.RowKit

structure Dom (pr : Prm) : Prop where
  K : pr.K ≤ 65536
  sz0 : ∀ i, i < pr.K → 0 ≤ pr.sz i
  sz1 : ∀ i, i < pr.K → pr.sz i ≤ 70368744177664
  room0 : 0 ≤ pr.room
  room1 : pr.room ≤ 70368744177664
  lroom0 : 0 ≤ pr.lroom
  lroom1 : pr.lroom ≤ pr.room
  small0 : 0 ≤ pr.small
  small1 : pr.small ≤ 70368744177664

structure Bd (pr : Prm) (st : A) : Prop where
  h0 : 0 ≤ st.held
  h1 : st.held ≤ pr.room
  l0 : 0 ≤ st.lheld
  l1 : st.lheld ≤ pr.lroom

structure Inv (w0 w : World) (S : St) (pr : Prm) (st : A) (op : Nat → Bool) : Prop where
  rep : Rep w0 w S
  wat : WAt S pr.sz
  nW : S.nW = pr.K
  c0 : S.ic 0 = .int .i64 pr.room
  c1 : S.ic 1 = .int .i64 pr.lroom
  c2 : S.ic 2 = .int .i64 pr.small
  c5 : S.ic 5 = .int .i64 st.held
  c6 : S.ic 6 = .int .i64 st.lheld
  shut : ∀ i, i < pr.K → S.shut i = !op i
  lanes : ∀ l, ∃ f n, LaneAt S pr.K pr.sz l (P pr st l) (st.fl l) f n

structure Same (S S' : St) : Prop where
  I : S'.I = S.I
  W : S'.W = S.W
  Ch : S'.Ch = S.Ch
  V : S'.V = S.V
  nV : S'.nV = S.nV
  vc : S'.vc = S.vc
theorem Same.refl (S : St) : Same S S := ⟨rfl, rfl, rfl, rfl, rfl, rfl⟩
theorem Same.trans {S S' S'' : St} (h : Same S S') (h' : Same S' S'') : Same S S'' := ⟨h'.I.trans h.I, h'.W.trans h.W, h'.Ch.trans h.Ch, h'.V.trans h.V, h'.nV.trans h.nV, h'.vc.trans h.vc⟩

variable {w0 w : World} {S S' : St} {pr : Prm} {st : A} {op : Nat → Bool} {l : Bool}

theorem Inv.dr {w2 : World} (h : Inv w0 w S pr st op) (hd : DR w w2) : Inv w0 w2 S pr st op := { h with rep := h.rep.dr hd }
theorem Inv.drewN (h : Inv w0 w S pr st op) (n : Nat) : Inv w0 (w.drewN n) S pr st op := { h with rep := h.rep.drewN n }

theorem bd_step {i old : Nat} (hd : Dom pr) (hb : Bd pr st) (hi : i < pr.K) (h : Pick pr st (some i)) : Bd pr (after pr st i old) := by
  obtain ⟨hn, hf⟩ := pick_some h
  have s0 := hd.sz0 i hi
  obtain ⟨a, b, c, d⟩ := hb
  have hl : 0 ≤ (if pr.lg i then pr.sz i else 0) := by split <;> omega
  have hfit : st.held + pr.sz i ≤ pr.room ∧ st.lheld + (if pr.lg i then pr.sz i else 0) ≤ pr.lroom := by
    rcases hf with hf | ⟨h1, h2⟩
    · simp only [fits, Bool.and_eq_true, Bool.or_eq_true, decide_eq_true_eq] at hf
      refine ⟨hf.1, ?_⟩
      by_cases e : pr.small < pr.sz i
      · have : pr.lg i = true := by simp [Prm.lg, e]
        rw [this]; simp
        rcases hf.2 with h | h
        · omega
        · exact h
      · have : pr.lg i = false := by simp [Prm.lg]; omega
        rw [this]; simp; exact d
    · rw [h1]; simp; omega
  exact ⟨by show 0 ≤ st.held + pr.sz i; omega, hfit.1, by show 0 ≤ st.lheld + _; omega, hfit.2⟩

theorem inv_old (h : Inv w0 w S pr st op) {i : Nat} (hi : P pr st l i = true) : ∃ old, IsOld pr st l old := by
  obtain ⟨f, n, H⟩ := h.lanes l
  obtain ⟨b, hb⟩ := adj_succ (P pr st l) pr.K 0 (by omega) (.inl rfl)
  have hk := (H.plt i hi).1
  have hbK : b ≠ pr.K + 1 := by
    intro e
    have := hb.2.2.2.2 (i + 1) (by omega) (by omega)
    simp [hi] at this
  refine ⟨b - 1, hb.2.2.2.1.resolve_left hbK, fun j hj => ?_⟩
  rcases Nat.lt_or_ge j (b - 1) with e | e
  · have := hb.2.2.2.2 (j + 1) (by omega) (by omega)
    simp [hj] at this
  · exact e

theorem inv_nx (h : Inv w0 w S pr st op) (l : Bool) : ∃ o, NX pr st l o := by
  obtain ⟨f, n, H⟩ := h.lanes l
  by_cases hn : n = 0
  · refine ⟨none, fun j => ?_⟩
    cases e : P pr st l j with
    | false => rfl
    | true => have := lane_pos H e; omega
  · have hp : 0 < n := by omega
    have h0 := H.mem.mem 0 hp
    cases e : st.fl l with
    | true =>
      obtain ⟨old, h1⟩ := inv_old h h0
      exact ⟨some old, h1.1, fun j hj => by rw [e]; simp; exact h1.2 j hj⟩
    | false =>
      refine ⟨some (f 0), h0, fun j hj => ?_⟩
      rw [e]; simp
      obtain ⟨k, hk, rfl⟩ := H.mem.all j hj
      exact Hp.heap_min H.hp k hk

def ptrOf (S : St) : Option Nat → Value
  | none => .pointer none
  | some i => pt (S.W i) 0

theorem inv_next (h : Inv w0 w S pr st op) {o : Option Nat} (ho : NX pr st l o) : Calls Try.prog 26 #[pt S.I (L l)] w fun e w' => e = .returned (ptrOf S o) ∧ w' = w := by
  obtain ⟨f, n, H⟩ := h.lanes l
  cases o with
  | none => exact next_rep0 h.rep H ho
  | some i => exact next_rep h.rep h.wat H ho.1 ho.2

theorem inv_oldest (h : Inv w0 w S pr st op) {i : Nat} (ho : IsOld pr st l i) : Calls Try.prog 27 #[pt S.I (L l)] w fun e w' => e = .returned (pt (S.W i) 0) ∧ w' = w := by
  obtain ⟨f, n, H⟩ := h.lanes l
  exact oldest_rep h.rep h.wat H ho.1 ho.2

theorem inv_lt (h : Inv w0 w S pr st op) {i : Nat} (hi : P pr st l i = true) : i < pr.K := by
  obtain ⟨f, n, H⟩ := h.lanes l
  exact (H.plt i hi).1

theorem inv_wc (h : Inv w0 w S pr st op) {i : Nat} (hi : i < pr.K) : w.cell? ⟨S.W i, 0, none⟩ = some (.int .i64 (pr.sz i)) ∧ w.cell? ⟨S.W i, 1, none⟩ = some (.int .u64 i) ∧ w.cell? ⟨S.W i, 2, none⟩ = some (.chan (some (S.Ch i))) := by
  have hi' : i < S.nW := by rw [h.nW]; exact hi
  rw [h.rep.wat i hi' 0 (by omega), h.rep.wat i hi' 1 (by omega), h.rep.wat i hi' 2 (by omega), (h.wat.sz i hi').1, (h.wat.sz i hi').2, h.wat.ch i hi']
  exact ⟨rfl, rfl, rfl⟩

theorem inv_ic (h : Inv w0 w S pr st op) : w.cell? ⟨S.I, 0, none⟩ = some (.int .i64 pr.room) ∧ w.cell? ⟨S.I, 1, none⟩ = some (.int .i64 pr.lroom) ∧ w.cell? ⟨S.I, 2, none⟩ = some (.int .i64 pr.small) ∧ w.cell? ⟨S.I, 5, none⟩ = some (.int .i64 st.held) ∧ w.cell? ⟨S.I, 6, none⟩ = some (.int .i64 st.lheld) := by
  rw [h.rep.iat 0 (by omega), h.rep.iat 1 (by omega), h.rep.iat 2 (by omega), h.rep.iat 5 (by omega), h.rep.iat 6 (by omega), h.c0, h.c1, h.c2, h.c5, h.c6]
  exact ⟨rfl, rfl, rfl, rfl, rfl⟩

theorem inv_fits (hd : Dom pr) (hb : Bd pr st) (h : Inv w0 w S pr st op) {i : Nat} (hi : i < pr.K) :
    Calls Try.prog 28 #[pt S.I 0, .int .i64 (pr.sz i)] w fun e w' => e = .returned (.bool (fits pr st (pr.sz i))) ∧ Hid (DR w w') := by
  obtain ⟨c0, c1, c2, c5, c6⟩ := inv_ic h
  have a := hd.sz0 i hi
  have b := hd.sz1 i hi
  obtain ⟨q0, q1, q2, q3⟩ := hb
  have r1 := hd.room1
  have r2 := hd.lroom1
  exact fits_any S.I (pr.sz i) pr.room pr.lroom pr.small st.held st.lheld w c0 c1 c2 c5 c6 (by omega) (by omega) (by omega) (by omega)

theorem inv_laneOf (h : Inv w0 w S pr st op) (i : Nat) : Calls Try.prog 17 #[pt S.I 0, .int .i64 (pr.sz i)] w fun e w' => e = .returned (pt S.I (L (pr.lg i))) ∧ w' = w := by
  obtain ⟨c0, c1, c2, c5, c6⟩ := inv_ic h
  exact laneOf_any S.I (pr.sz i) pr.small w c2 (pr.lg i) rfl

/-- The state between remove and take. -/
def mid (pr : Prm) (st : A) (i old : Nat) : A := { after pr st i old with held := st.held, lheld := st.lheld }

theorem P_after (pr : Prm) (st : A) (i old : Nat) (l : Bool) (j : Nat) : P pr (after pr st i old) l j = (P pr st l j && decide (j ≠ i)) := by
  show ((st.wt j && decide (j ≠ i)) && (pr.lg j == l)) = ((st.wt j && (pr.lg j == l)) && decide (j ≠ i))
  cases st.wt j <;> cases decide (j ≠ i) <;> cases (pr.lg j == l) <;> rfl

theorem inv_remove (hd : Dom pr) (h : Inv w0 w S pr st op) {i old : Nat} (hi : P pr st (pr.lg i) i = true) (ho : IsOld pr st (pr.lg i) old) :
    Calls Try.prog 29 #[pt S.I (L (pr.lg i)), pt (S.W i) 0] w fun e w' => e = .returned (.tuple #[]) ∧ Hid (∃ S', Inv w0 w' S' pr (mid pr st i old) op ∧ Same S S') := by
  obtain ⟨f, n, H⟩ := h.lanes (pr.lg i)
  refine (remove_rep (Q := P pr (mid pr st i old) (pr.lg i)) h.rep h.wat H hd.K hi ho.1 ho.2 (fun j => P_after pr st i old _ j)).mono ?_
  rintro e w' ⟨rfl, S', f', h1, h2, h3, h4⟩
  have low : ∀ o, o < 7 → S'.ic o = S.ic o := fun o ho => h4.ic o (.inl (by have := L_ge (pr.lg i); omega))
  refine ⟨rfl, S', ⟨h1, h2, by rw [h4.same]; exact h.nW, (low 0 (by omega)).trans h.c0, (low 1 (by omega)).trans h.c1, (low 2 (by omega)).trans h.c2, (low 5 (by omega)).trans h.c5, (low 6 (by omega)).trans h.c6, fun j hj => by rw [h4.same]; exact h.shut j hj, fun l => ?_⟩, ⟨by rw [h4.same], by rw [h4.same], by rw [h4.same], by rw [h4.same], by rw [h4.same], by rw [h4.same]⟩⟩
  by_cases e : l = pr.lg i
  · subst e
    have hfl : (mid pr st i old).fl (pr.lg i) = decide (i ≠ old) := by simp [mid, after, ub]
    rw [hfl]
    exact ⟨f', _, h3⟩
  · obtain ⟨f2, n2, H2⟩ := h.lanes l
    have hfl : (mid pr st i old).fl l = st.fl l := by simp only [mid, after, ub]; rw [if_neg e]
    have hP : P pr (mid pr st i old) l = P pr st l := by
      funext j
      refine (P_after pr st i old l j).trans ?_
      by_cases ej : j = i
      · subst ej
        have : (pr.lg j == l) = false := by rw [beq_eq_false_iff_ne]; exact fun h => e h.symm
        simp [P, this]
      · simp [ej]
    rw [hfl, hP]
    refine ⟨f2, n2, H2.sees (h4.sees e fun j hj => ?_)⟩
    obtain ⟨_, k2⟩ := P_kind hj
    cases q : P pr st (pr.lg i) j with
    | false => rfl
    | true => exact absurd (k2.symm.trans (P_kind q).2) e

theorem sees_ic {o : Nat} {v : Value} (ho : o < 7) (l : Bool) (p : Nat → Bool) (S : St) : Sees l p S { S with ic := u1 S.ic o v } where
  I := rfl
  nW := Nat.le_refl _
  nE := Nat.le_refl _
  E := fun _ _ => rfl
  W := fun _ _ => rfl
  ic := fun o' h1 _ => by have := L_ge l; have : o' ≠ o := by omega
                          simp [u1, this]
  ec := fun _ _ _ _ => rfl
  hc := rfl
  G := rfl
  cap := rfl
  wc := fun _ _ => rfl

theorem inv_take {i old : Nat} (hd : Dom pr) (hb : Bd pr st) (h : Inv w0 w S pr (mid pr st i old) op) (hi : i < pr.K) :
    Calls Try.prog 30 #[pt S.I 0, .int .i64 (pr.sz i)] w fun e w' => e = .returned (.tuple #[]) ∧ Hid (∃ S', Inv w0 w' S' pr (after pr st i old) op ∧ Same S S') := by
  obtain ⟨c0, c1, c2, c5, c6⟩ := inv_ic h
  have a := hd.sz0 i hi
  have b := hd.sz1 i hi
  obtain ⟨q0, q1, q2, q3⟩ := hb
  have r1 := hd.room1
  have r2 := hd.lroom1
  refine (take_any S.I (pr.sz i) pr.small st.held st.lheld w c2 c5 c6 (h.rep.ifr _) (h.rep.ifr _) (by omega) (by omega) (by omega) (by omega) (pr.lg i) rfl).mono ?_
  rintro e w' ⟨rfl, rfl⟩
  refine ⟨rfl, ?_⟩
  have R1 := h.rep.setI (o := 5) (by omega) (.int .i64 (st.held + pr.sz i))
  cases hl : pr.lg i with
  | false =>
    simp only [Bool.false_eq_true, if_false]
    refine ⟨_, ⟨R1, ⟨h.wat.eq, h.wat.sz, h.wat.ch, h.wat.came, h.wat.val⟩, h.nW, ?_, ?_, ?_, ?_, ?_, h.shut, fun l => ?_⟩, ⟨rfl, rfl, rfl, rfl, rfl, rfl⟩⟩
    · simp [u1]; exact h.c0
    · simp [u1]; exact h.c1
    · simp [u1]; exact h.c2
    · simp [u1, after]
    · simp [u1, after, hl]; exact h.c6
    · obtain ⟨f, n, H⟩ := h.lanes l
      exact ⟨f, n, H.sees (sees_ic (by omega) _ _ _)⟩
  | true =>
    have R2 := R1.setI (o := 6) (by omega) (.int .i64 (st.lheld + pr.sz i))
    simp only [if_true]
    refine ⟨_, ⟨R2, ⟨h.wat.eq, h.wat.sz, h.wat.ch, h.wat.came, h.wat.val⟩, h.nW, ?_, ?_, ?_, ?_, ?_, h.shut, fun l => ?_⟩, ⟨rfl, rfl, rfl, rfl, rfl, rfl⟩⟩
    · simp [u1]; exact h.c0
    · simp [u1]; exact h.c1
    · simp [u1]; exact h.c2
    · simp [u1, after]
    · simp [u1, after, hl]
    · obtain ⟨f, n, H⟩ := h.lanes l
      exact ⟨f, n, (H.sees (sees_ic (o := 5) (v := .int .i64 (st.held + pr.sz i)) (by omega) _ _ _)).sees (sees_ic (by omega) _ _ _)⟩

theorem inv_close (h : Inv w0 w S pr st op) {i : Nat} (hi : i < pr.K) (hop : op i = true) :
    w.heap[S.Ch i]? = some (.chan 0 #[] false 0 0 false) ∧ Inv w0 { w with heap := w.heap.setIfInBounds (S.Ch i) (.chan 0 #[] true 0 0 false) } { S with shut := un S.shut i true } pr st (fun j => op j && decide (j ≠ i)) := by
  have hi' : i < S.nW := by rw [h.nW]; exact hi
  have hc := h.rep.chan i hi'
  have hsh : S.shut i = false := by rw [h.shut i hi, hop]; rfl
  rw [hsh] at hc
  have hlt := h.rep.clt hi'
  refine ⟨hc.2, ⟨h.rep.close hi' (fun b hb => ?_) ?_ ?_, ⟨h.wat.eq, h.wat.sz, h.wat.ch, h.wat.came, h.wat.val⟩, h.nW, h.c0, h.c1, h.c2, h.c5, h.c6, fun j hj => ?_, fun l => ?_⟩⟩
  · show (w.heap.setIfInBounds (S.Ch i) _)[b]? = w.heap[b]?
    rw [Array.getElem?_setIfInBounds_ne (fun e => hb e.symm)]
  · show (w.heap.setIfInBounds (S.Ch i) _)[S.Ch i]? = _
    rw [Array.getElem?_setIfInBounds_self_of_lt hlt]
  · exact Go.Conc.below_setChan h.rep.bel hc.1 _ _ _ _ _ _
  · show un S.shut i true j = _
    unfold un
    by_cases e : j = i
    · simp [e]
    · simp [e]; exact h.shut j hj
  · obtain ⟨f, n, H⟩ := h.lanes l
    exact ⟨f, n, H.sees ⟨rfl, Nat.le_refl _, Nat.le_refl _, fun _ _ => rfl, fun _ _ => rfl, fun _ _ _ => rfl, fun _ _ _ _ => rfl, rfl, rfl, rfl, fun _ _ => rfl⟩⟩
end Go.Proofs.Qxb6616981a
