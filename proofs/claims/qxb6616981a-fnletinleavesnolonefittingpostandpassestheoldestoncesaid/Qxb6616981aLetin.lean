/-
  letIn, walked.
-/
import Derived.Test.Qxb6616981aInv
namespace Go.Proofs.Qxb6616981a
open Go.RowKit

set_option maxRecDepth 100000
set_option maxHeartbeats 4000000

variable {w0 w : World} {S S' : St} {pr : Prm} {st : A} {op : Nat → Bool} {l : Bool}

/-- What the round's tail does with the post x that it picked. -/
theorem tail_facts (hd : Dom pr) (hb : Bd pr st) (h : Inv w0 w S pr st st.wt) {x old ib : Nat} (hI : S.I = ib) (hx : st.wt x = true) (hxK : x < pr.K) (ho : IsOld pr st (pr.lg x) old) :
    ∃ M3 M4 : World → Prop, Hid (∀ w2, DR w w2 → w2.cell? ⟨S.W x, 0, none⟩ = some (.int .i64 (pr.sz x)))
      ∧ Hid (∀ w2, DR w w2 → Calls Try.prog 17 #[pt ib 0, .int .i64 (pr.sz x)] w2 fun e w' => e = .returned (pt ib (L (pr.lg x))) ∧ w' = w2)
      ∧ Hid (∀ w2, DR w w2 → Calls Try.prog 29 #[pt ib (L (pr.lg x)), pt (S.W x) 0] w2 fun e w' => e = .returned (.tuple #[]) ∧ Hid (M3 w'))
      ∧ Hid (∀ w3, Hid (M3 w3) → w3.cell? ⟨S.W x, 0, none⟩ = some (.int .i64 (pr.sz x)) ∧ Calls Try.prog 30 #[pt ib 0, .int .i64 (pr.sz x)] w3 fun e w' => e = .returned (.tuple #[]) ∧ Hid (M4 w'))
      ∧ Hid (∀ w4, Hid (M4 w4) → w4.cell? ⟨S.W x, 2, none⟩ = some (.chan (some (S.Ch x))) ∧ w4.heap[S.Ch x]? = some (.chan 0 #[] false 0 0 false)
          ∧ ∃ S5, Inv w0 { w4 with heap := w4.heap.setIfInBounds (S.Ch x) (.chan 0 #[] true 0 0 false) } S5 pr (after pr st x old) (after pr st x old).wt ∧ Same S S5) := by
  subst hI
  refine ⟨fun w' => ∃ S', Inv w0 w' S' pr (mid pr st x old) st.wt ∧ Same S S', fun w' => ∃ S', Inv w0 w' S' pr (after pr st x old) st.wt ∧ Same S S', ?_, ?_, ?_, ?_, ?_⟩
  · exact fun w2 hd2 => (inv_wc (h.dr hd2) hxK).1
  · exact fun w2 hd2 => inv_laneOf (h.dr hd2) x
  · exact fun w2 hd2 => inv_remove hd (h.dr hd2) (P_mk hx) ho
  · rintro w3 ⟨S3, h3, s3⟩
    refine ⟨by rw [← s3.W]; exact (inv_wc h3 hxK).1, ?_⟩
    rw [← s3.I]
    refine (inv_take hd hb h3 hxK).mono ?_
    rintro e w' ⟨rfl, S4, h4, s4⟩
    exact ⟨rfl, S4, h4, s3.trans s4⟩
  · rintro w4 ⟨S4, h4, s4⟩
    obtain ⟨h5, h6⟩ := inv_close h4 hxK hx
    rw [← s4.W, ← s4.Ch]
    exact ⟨(inv_wc h4 hxK).2.2, h5, _, h6, ⟨s4.I, s4.W, s4.Ch, s4.V, s4.nV, s4.vc⟩⟩

theorem cnt_after {x old : Nat} (hx : st.wt x = true) (hxK : x < pr.K) : cnt (after pr st x old).wt pr.K < cnt st.wt pr.K := by
  have := cnt_one (P := (after pr st x old).wt) (Q := st.wt) (x := x) (by simp [after]) hx (fun i hi => by simp [after, hi]) pr.K hxK
  omega

theorem pick_mk {s l : Option Nat} {old : Nat} {o : Option Nat} (hs : NX pr st false s) (hl : NX pr st true l) (ho : s ≠ none → IsOld pr st false old) (h : choose pr st s l old = o) : Pick pr st o := ⟨s, l, old, hs, hl, ho, h.symm⟩

theorem nb {b : Bool} (h : b = false) : ¬ b = true := by rw [h]; decide

theorem letin_rep (hd : Dom pr) (hb : Bd pr st) (h : Inv w0 w S pr st st.wt) :
    Calls Try.prog 20 #[pt S.I 0] w fun e w' => e = .returned (.tuple #[]) ∧ ∃ S' st', Hid (Inv w0 w' S' pr st' st'.wt) ∧ Hid (Same S S') ∧ Hid (Steps pr st st') ∧ Hid (Pick pr st' none) ∧ Hid (Bd pr st') ∧ Hid (Pick pr st none → S' = S ∧ st' = st ∧ DR w w') := by
  have HDm : Hid (Dom pr) := hd
  have HB : Hid (Bd pr st) := hb
  have HV : Hid (Inv w0 w S pr st st.wt) := h
  clear hd hb h
  go_enter Try.func20, Try.ntmps20
  go_wp2_with fail
  go_loopg [2] (cnt st.wt pr.K) (fun g s2 wr => ∃ S1 st1, g = cnt st1.wt pr.K ∧ Hid (Inv w0 wr S1 pr st1 st1.wt) ∧ Hid (Same S S1) ∧ Hid (Steps pr st st1) ∧ Hid (Bd pr st1) ∧ Hid (Pick pr st none → S1 = S ∧ st1 = st ∧ DR w wr))
  case atStart => exact ⟨S, st, rfl, HV, Same.refl _, Steps.refl, HB, fun _ => ⟨rfl, rfl, DR.refl _⟩⟩
  case round =>
    obtain ⟨S1, st1, rfl, HI, HSm, HSt, HB1, HNo⟩ := hrel
    clear HB HV
    obtain ⟨s, HNs⟩ := inv_nx HI.out false
    obtain ⟨l, HNl⟩ := inv_nx HI.out true
    have CS : Hid (∀ nq, Calls Try.prog 26 #[pt S.I 7] (wr.drewN nq) fun e w' => e = .returned (ptrOf S1 s) ∧ w' = wr.drewN nq) := fun nq => by
      have := inv_next (HI.out.drewN nq) HNs; rw [HSm.out.I] at this; exact this
    have CL : Hid (∀ nq, Calls Try.prog 26 #[pt S.I 14] (wr.drewN nq) fun e w' => e = .returned (ptrOf S1 l) ∧ w' = wr.drewN nq) := fun nq => by
      have := inv_next (HI.out.drewN nq) HNl; rw [HSm.out.I] at this; exact this
    have CF : Hid (∀ w2, DR wr w2 → ∀ i, i < pr.K → Calls Try.prog 28 #[pt S.I 0, .int .i64 (pr.sz i)] w2 fun e w' => e = .returned (.bool (fits pr st1 (pr.sz i))) ∧ Hid (DR wr w')) := fun w2 hd2 i hi => by
      have := inv_fits HDm.out HB1.out (HI.out.dr hd2) hi
      rw [HSm.out.I] at this
      exact this.mono fun e w' ⟨a, b⟩ => ⟨a, hd2.trans b⟩
    have CW : Hid (∀ w2, DR wr w2 → ∀ i, i < pr.K → w2.cell? ⟨S1.W i, 0, none⟩ = some (.int .i64 (pr.sz i)) ∧ w2.cell? ⟨S1.W i, 1, none⟩ = some (.int .u64 i)) := fun w2 hd2 i hi => ⟨(inv_wc (HI.out.dr hd2) hi).1, (inv_wc (HI.out.dr hd2) hi).2.1⟩
    have CI : Hid (∀ w2, DR wr w2 → w2.cell? ⟨S.I, 0, none⟩ = some (.int .i64 pr.room) ∧ w2.cell? ⟨S.I, 1, none⟩ = some (.int .i64 pr.lroom) ∧ w2.cell? ⟨S.I, 2, none⟩ = some (.int .i64 pr.small) ∧ w2.cell? ⟨S.I, 5, none⟩ = some (.int .i64 st1.held) ∧ w2.cell? ⟨S.I, 6, none⟩ = some (.int .i64 st1.lheld)) := fun w2 hd2 => by
      rw [← HSm.out.I]; exact inv_ic (HI.out.dr hd2)
    have KNs : Hid (NX pr st1 false s) := HNs
    have KNl : Hid (NX pr st1 true l) := HNl
    clear HNs HNl
    cases s with
    | none =>
      cases l with
      | none =>
        simp only [ptrOf] at CS CL
        go_wp2_with fail
        go_quiet (first | (go_at_call_of 26 (7 : Nat); refine Calls.quiet_of_same (CS.out _)) | (go_at_call_of 26 (14 : Nat); refine Calls.quiet_of_same (CL.out _)))
        have HD1 : Hid (DR wr (wr.drewN nq)) := ⟨nq, rfl⟩
        generalize wr.drewN nq = w1 at HD1 ⊢
        clear CS CL
        go_wp2_with fail
        go_quiet (fail)
        have HD2 : Hid (DR wr (w1.drewN nq)) := DR.trans HD1.out ⟨nq, rfl⟩
        generalize w1.drewN nq = w2 at HD2 ⊢
        go_wp2
        exact bodyPost_ret (results_none rfl _ _ _) rfl ⟨rfl, S1, st1, HI.out.dr HD2, HSm, HSt, pick_mk KNs.out KNl.out (fun h => absurd rfl h) (show choose pr st1 none none 0 = none from rfl), HB1, fun hp => ⟨(HNo.out hp).1, (HNo.out hp).2.1, (HNo.out hp).2.2.trans HD2⟩⟩
      | some li =>
        simp only [ptrOf] at CS CL
        have liK : li < pr.K := inv_lt HI.out KNl.out.1
        have Hlig : Hid (pr.lg li = true) := (P_kind KNl.out.1).2
        obtain ⟨oli, holi⟩ := inv_old HI.out KNl.out.1
        have HOli : Hid (IsOld pr st1 (pr.lg li) oli) := by rw [Hlig.out]; exact holi
        clear holi
        have CFx : Hid (∀ w2, DR wr w2 → Calls Try.prog 28 #[pt S.I 0, .int .i64 (pr.sz li)] w2 fun e w' => e = .returned (.bool (fits pr st1 (pr.sz li))) ∧ Hid (DR wr w')) := fun w2 hd2 => CF.out w2 hd2 li liK
        obtain ⟨fv, hfv⟩ : ∃ fv, fits pr st1 (pr.sz li) = fv := ⟨_, rfl⟩
        have HFV : Hid (fits pr st1 (pr.sz li) = fv) := hfv
        rw [hfv] at CFx
        clear hfv
        cases fv with
        | true =>
          go_wp2_with fail
          go_quiet (first | (go_at_call_of 26 (7 : Nat); refine Calls.quiet_of_same (CS.out _)) | (go_at_call_of 26 (14 : Nat); refine Calls.quiet_of_same (CL.out _)))
          have HD1 : Hid (DR wr (wr.drewN nq)) := ⟨nq, rfl⟩
          generalize wr.drewN nq = w1 at HD1 ⊢
          clear CS CL
          go_wp2_with fail
          go_quiet (fail)
          have HD2 : Hid (DR wr (w1.drewN nq)) := DR.trans HD1.out ⟨nq, rfl⟩
          generalize w1.drewN nq = w2 at HD2 ⊢
          obtain ⟨x0, x1⟩ := CW.out w2 HD2 li liK
          go_wp2_with fail
          refine (CFx.out w2 HD2).mono ?_
          rintro e w5 ⟨rfl, HD3⟩
          obtain ⟨M3, M4, T0, T1, T2, T3, T4⟩ := tail_facts HDm.out HB1.out HI.out HSm.out.I (P_kind KNl.out.1 |>.1) liK HOli.out
          rw [Hlig.out] at T1 T2
          have t0 := T0.out _ HD3
          go_wp2_with fail
          refine (T1.out _ HD3).mono ?_
          rintro e wa ⟨rfl, rfl⟩
          go_wp2_with fail
          refine (T2.out _ HD3).mono ?_
          rintro e w3 ⟨rfl, HM3⟩
          have t3 := (T3.out w3 HM3).1
          go_wp2_with fail
          refine (T3.out w3 HM3).2.mono ?_
          rintro e w4 ⟨rfl, HM4⟩
          obtain ⟨t4, HCh, H5⟩ := T4.out w4 HM4
          obtain ⟨w7, hw7⟩ : ∃ w7, w7 = { w4 with heap := w4.heap.setIfInBounds (S1.Ch li) (.chan 0 #[] true 0 0 false) } := ⟨_, rfl⟩
          have hcl : ∀ ats ty, (Builtin.close_ ats ty #[.chan (some (S1.Ch li))]).run Try.prog w4 = .ok (.tuple #[]) w7 := fun ats ty => by rw [hw7]; exact run_close_open ats ty HCh
          rw [← hw7] at H5
          have H6 : Hid (∃ S5, Inv w0 w7 S5 pr (after pr st1 li oli) (after pr st1 li oli).wt ∧ Same S1 S5) := H5
          clear HCh H5 hw7
          go_wp2
          have HPk : Pick pr st1 (some li) := pick_mk KNs.out KNl.out (fun h => absurd rfl h) (show choose pr st1 none (some li) 0 = some li from by simp only [choose, HFV.out, if_true])
          obtain ⟨S5, V5, Q5⟩ := H6.out
          go_roundg (cnt (after pr st1 li oli).wt pr.K)
          case measure => exact cnt_after (P_kind KNl.out.1).1 liK
          case rel => exact ⟨S5, _, rfl, V5, HSm.out.trans Q5, Steps.tail HSt.out (Step.mk li oli HPk HOli.out), bd_step HDm.out HB1.out liK HPk, fun hp => (by obtain ⟨_, e, _⟩ := HNo.out hp; rw [e] at HPk; cases pick_uniq hp HPk)⟩
        | false =>
          go_wp2_with fail
          go_quiet (first | (go_at_call_of 26 (7 : Nat); refine Calls.quiet_of_same (CS.out _)) | (go_at_call_of 26 (14 : Nat); refine Calls.quiet_of_same (CL.out _)))
          have HD1 : Hid (DR wr (wr.drewN nq)) := ⟨nq, rfl⟩
          generalize wr.drewN nq = w1 at HD1 ⊢
          clear CS CL
          go_wp2_with fail
          go_quiet (fail)
          have HD2 : Hid (DR wr (w1.drewN nq)) := DR.trans HD1.out ⟨nq, rfl⟩
          generalize w1.drewN nq = w2 at HD2 ⊢
          obtain ⟨x0, x1⟩ := CW.out w2 HD2 li liK
          go_wp2_with fail
          refine (CFx.out w2 HD2).mono ?_
          rintro e w5 ⟨rfl, HD3⟩
          go_wp2_with fail
          go_quiet (fail)
          have HD4 : Hid (DR wr (w5.drewN nq)) := DR.trans HD3.out ⟨nq, rfl⟩
          generalize w5.drewN nq = w6 at HD4 ⊢
          go_wp2
          exact bodyPost_ret (results_none rfl _ _ _) rfl ⟨rfl, S1, st1, HI.out.dr HD4, HSm, HSt, pick_mk KNs.out KNl.out (fun h => absurd rfl h) (show choose pr st1 none (some li) 0 = none from by simp only [choose, HFV.out, Bool.false_eq_true, if_false]), HB1, fun hp => ⟨(HNo.out hp).1, (HNo.out hp).2.1, (HNo.out hp).2.2.trans HD4⟩⟩
    | some si =>
      cases l with
      | none =>
        simp only [ptrOf] at CS CL
        have siK : si < pr.K := inv_lt HI.out KNs.out.1
        have Hsig : Hid (pr.lg si = false) := (P_kind KNs.out.1).2
        obtain ⟨osi, hosi⟩ := inv_old HI.out KNs.out.1
        have HOs : Hid (IsOld pr st1 false osi) := hosi
        have HOsi : Hid (IsOld pr st1 (pr.lg si) osi) := by rw [Hsig.out]; exact hosi
        clear hosi
        have CFx : Hid (∀ w2, DR wr w2 → Calls Try.prog 28 #[pt S.I 0, .int .i64 (pr.sz si)] w2 fun e w' => e = .returned (.bool (fits pr st1 (pr.sz si))) ∧ Hid (DR wr w')) := fun w2 hd2 => CF.out w2 hd2 si siK
        obtain ⟨fv, hfv⟩ : ∃ fv, fits pr st1 (pr.sz si) = fv := ⟨_, rfl⟩
        have HFV : Hid (fits pr st1 (pr.sz si) = fv) := hfv
        rw [hfv] at CFx
        clear hfv
        cases fv with
        | true =>
          go_wp2_with fail
          go_quiet (first | (go_at_call_of 26 (7 : Nat); refine Calls.quiet_of_same (CS.out _)) | (go_at_call_of 26 (14 : Nat); refine Calls.quiet_of_same (CL.out _)))
          have HD1 : Hid (DR wr (wr.drewN nq)) := ⟨nq, rfl⟩
          generalize wr.drewN nq = w1 at HD1 ⊢
          clear CS CL
          go_wp2_with fail
          go_quiet (fail)
          have HD2 : Hid (DR wr (w1.drewN nq)) := DR.trans HD1.out ⟨nq, rfl⟩
          generalize w1.drewN nq = w2 at HD2 ⊢
          obtain ⟨x0, x1⟩ := CW.out w2 HD2 si siK
          go_wp2_with fail
          refine (CFx.out w2 HD2).mono ?_
          rintro e w5 ⟨rfl, HD3⟩
          obtain ⟨M3, M4, T0, T1, T2, T3, T4⟩ := tail_facts HDm.out HB1.out HI.out HSm.out.I (P_kind KNs.out.1 |>.1) siK HOsi.out
          rw [Hsig.out] at T1 T2
          have t0 := T0.out _ HD3
          go_wp2_with fail
          refine (T1.out _ HD3).mono ?_
          rintro e wa ⟨rfl, rfl⟩
          go_wp2_with fail
          refine (T2.out _ HD3).mono ?_
          rintro e w3 ⟨rfl, HM3⟩
          have t3 := (T3.out w3 HM3).1
          go_wp2_with fail
          refine (T3.out w3 HM3).2.mono ?_
          rintro e w4 ⟨rfl, HM4⟩
          obtain ⟨t4, HCh, H5⟩ := T4.out w4 HM4
          obtain ⟨w7, hw7⟩ : ∃ w7, w7 = { w4 with heap := w4.heap.setIfInBounds (S1.Ch si) (.chan 0 #[] true 0 0 false) } := ⟨_, rfl⟩
          have hcl : ∀ ats ty, (Builtin.close_ ats ty #[.chan (some (S1.Ch si))]).run Try.prog w4 = .ok (.tuple #[]) w7 := fun ats ty => by rw [hw7]; exact run_close_open ats ty HCh
          rw [← hw7] at H5
          have H6 : Hid (∃ S5, Inv w0 w7 S5 pr (after pr st1 si osi) (after pr st1 si osi).wt ∧ Same S1 S5) := H5
          clear HCh H5 hw7
          go_wp2
          have HPk : Pick pr st1 (some si) := pick_mk KNs.out KNl.out (fun _ => HOs.out) (show choose pr st1 (some si) none osi = some si from by simp only [choose, HFV.out, if_true])
          obtain ⟨S5, V5, Q5⟩ := H6.out
          go_roundg (cnt (after pr st1 si osi).wt pr.K)
          case measure => exact cnt_after (P_kind KNs.out.1).1 siK
          case rel => exact ⟨S5, _, rfl, V5, HSm.out.trans Q5, Steps.tail HSt.out (Step.mk si osi HPk HOsi.out), bd_step HDm.out HB1.out siK HPk, fun hp => (by obtain ⟨_, e, _⟩ := HNo.out hp; rw [e] at HPk; cases pick_uniq hp HPk)⟩
        | false =>
          go_wp2_with fail
          go_quiet (first | (go_at_call_of 26 (7 : Nat); refine Calls.quiet_of_same (CS.out _)) | (go_at_call_of 26 (14 : Nat); refine Calls.quiet_of_same (CL.out _)))
          have HD1 : Hid (DR wr (wr.drewN nq)) := ⟨nq, rfl⟩
          generalize wr.drewN nq = w1 at HD1 ⊢
          clear CS CL
          go_wp2_with fail
          go_quiet (fail)
          have HD2 : Hid (DR wr (w1.drewN nq)) := DR.trans HD1.out ⟨nq, rfl⟩
          generalize w1.drewN nq = w2 at HD2 ⊢
          obtain ⟨x0, x1⟩ := CW.out w2 HD2 si siK
          go_wp2_with fail
          refine (CFx.out w2 HD2).mono ?_
          rintro e w5 ⟨rfl, HD3⟩
          go_wp2
          exact bodyPost_ret (results_none rfl _ _ _) rfl ⟨rfl, S1, st1, HI.out.dr HD3, HSm, HSt, pick_mk KNs.out KNl.out (fun _ => HOs.out) (show choose pr st1 (some si) none osi = none from by simp only [choose, HFV.out, Bool.false_eq_true, if_false]), HB1, fun hp => ⟨(HNo.out hp).1, (HNo.out hp).2.1, (HNo.out hp).2.2.trans HD3⟩⟩
      | some li =>
        simp only [ptrOf] at CS CL
        have siK : si < pr.K := inv_lt HI.out KNs.out.1
        have Hsig : Hid (pr.lg si = false) := (P_kind KNs.out.1).2
        obtain ⟨osi, hosi⟩ := inv_old HI.out KNs.out.1
        have HOs : Hid (IsOld pr st1 false osi) := hosi
        have HOsi : Hid (IsOld pr st1 (pr.lg si) osi) := by rw [Hsig.out]; exact hosi
        clear hosi
        have liK : li < pr.K := inv_lt HI.out KNl.out.1
        have Hlig : Hid (pr.lg li = true) := (P_kind KNl.out.1).2
        obtain ⟨oli, holi⟩ := inv_old HI.out KNl.out.1
        have HOli : Hid (IsOld pr st1 (pr.lg li) oli) := by rw [Hlig.out]; exact holi
        clear holi
        have CO : Hid (∀ w2, DR wr w2 → Calls Try.prog 27 #[pt S.I 7] w2 fun e w' => e = .returned (pt (S1.W osi) 0) ∧ w' = w2) := fun w2 hd2 => by
          have := inv_oldest (HI.out.dr hd2) HOs.out; rw [HSm.out.I] at this; exact this
        have osiK : osi < pr.K := inv_lt HI.out HOs.out.1
        by_cases hlo : li < osi
        · have dlo : decide ((li : Int) < (osi : Int)) = true := by rw [decide_eq_true_eq]; omega
          have HLO : Hid (li < osi) := hlo
          clear hlo
          have CFx : Hid (∀ w2, DR wr w2 → Calls Try.prog 28 #[pt S.I 0, .int .i64 (pr.sz li)] w2 fun e w' => e = .returned (.bool (fits pr st1 (pr.sz li))) ∧ Hid (DR wr w')) := fun w2 hd2 => CF.out w2 hd2 li liK
          obtain ⟨fv, hfv⟩ : ∃ fv, fits pr st1 (pr.sz li) = fv := ⟨_, rfl⟩
          have HFV : Hid (fits pr st1 (pr.sz li) = fv) := hfv
          rw [hfv] at CFx
          clear hfv
          cases fv with
          | true =>
            go_wp2_with fail
            go_quiet (first | (go_at_call_of 26 (7 : Nat); refine Calls.quiet_of_same (CS.out _)) | (go_at_call_of 26 (14 : Nat); refine Calls.quiet_of_same (CL.out _)))
            have HD1 : Hid (DR wr (wr.drewN nq)) := ⟨nq, rfl⟩
            generalize wr.drewN nq = w1 at HD1 ⊢
            clear CS CL
            obtain ⟨y0, y1⟩ := CW.out w1 HD1 li liK
            obtain ⟨z0, z1⟩ := CW.out w1 HD1 osi osiK
            have CO1 : Hid (∀ n, Calls Try.prog 27 #[pt S.I 7] (w1.drewN n) fun e w' => e = .returned (pt (S1.W osi) 0) ∧ w' = w1.drewN n) := fun n => CO.out _ (DR.trans HD1.out ⟨n, rfl⟩)
            go_wp2_with fail
            go_quiet (first | (go_at_call_of 27 (7 : Nat); refine Calls.quiet_of_same (CO1.out _)))
            have HD2 : Hid (DR wr (w1.drewN nq)) := DR.trans HD1.out ⟨nq, rfl⟩
            generalize w1.drewN nq = w2 at HD2 ⊢
            clear CO1 y0 y1 z0 z1
            obtain ⟨x0, x1⟩ := CW.out w2 HD2 li liK
            go_wp2_with fail
            refine (CFx.out w2 HD2).mono ?_
            rintro e w5 ⟨rfl, HD3⟩
            obtain ⟨M3, M4, T0, T1, T2, T3, T4⟩ := tail_facts HDm.out HB1.out HI.out HSm.out.I (P_kind KNl.out.1 |>.1) liK HOli.out
            rw [Hlig.out] at T1 T2
            have t0 := T0.out _ HD3
            go_wp2_with fail
            refine (T1.out _ HD3).mono ?_
            rintro e wa ⟨rfl, rfl⟩
            go_wp2_with fail
            refine (T2.out _ HD3).mono ?_
            rintro e w3 ⟨rfl, HM3⟩
            have t3 := (T3.out w3 HM3).1
            go_wp2_with fail
            refine (T3.out w3 HM3).2.mono ?_
            rintro e w4 ⟨rfl, HM4⟩
            obtain ⟨t4, HCh, H5⟩ := T4.out w4 HM4
            obtain ⟨w7, hw7⟩ : ∃ w7, w7 = { w4 with heap := w4.heap.setIfInBounds (S1.Ch li) (.chan 0 #[] true 0 0 false) } := ⟨_, rfl⟩
            have hcl : ∀ ats ty, (Builtin.close_ ats ty #[.chan (some (S1.Ch li))]).run Try.prog w4 = .ok (.tuple #[]) w7 := fun ats ty => by rw [hw7]; exact run_close_open ats ty HCh
            rw [← hw7] at H5
            have H6 : Hid (∃ S5, Inv w0 w7 S5 pr (after pr st1 li oli) (after pr st1 li oli).wt ∧ Same S1 S5) := H5
            clear HCh H5 hw7
            go_wp2
            have HPk : Pick pr st1 (some li) := pick_mk KNs.out KNl.out (fun _ => HOs.out) (show choose pr st1 (some si) (some li) osi = some li from by simp only [choose, HFV.out, if_pos HLO.out, if_true])
            obtain ⟨S5, V5, Q5⟩ := H6.out
            go_roundg (cnt (after pr st1 li oli).wt pr.K)
            case measure => exact cnt_after (P_kind KNl.out.1).1 liK
            case rel => exact ⟨S5, _, rfl, V5, HSm.out.trans Q5, Steps.tail HSt.out (Step.mk li oli HPk HOli.out), bd_step HDm.out HB1.out liK HPk, fun hp => (by obtain ⟨_, e, _⟩ := HNo.out hp; rw [e] at HPk; cases pick_uniq hp HPk)⟩
          | false =>
            have q1 := HB1.out.h0
            have q2 := HB1.out.h1
            have q3 := HB1.out.l0
            have q4 := HB1.out.l1
            have q5 := HDm.out.room1
            have q6 := HDm.out.lroom1
            have q7 := HDm.out.lroom0
            have q8 := HDm.out.sz0 si siK
            have q9 := HDm.out.sz1 si siK
            by_cases hk : st1.held - st1.lheld + pr.sz si ≤ pr.room - pr.lroom
            · have dk : decide (st1.held - st1.lheld + pr.sz si ≤ pr.room - pr.lroom) = true := decide_eq_true hk
              have HKp : Hid (st1.held - st1.lheld + pr.sz si ≤ pr.room - pr.lroom) := hk
              clear hk
              go_wp2_with fail
              go_quiet (first | (go_at_call_of 26 (7 : Nat); refine Calls.quiet_of_same (CS.out _)) | (go_at_call_of 26 (14 : Nat); refine Calls.quiet_of_same (CL.out _)))
              have HD1 : Hid (DR wr (wr.drewN nq)) := ⟨nq, rfl⟩
              generalize wr.drewN nq = w1 at HD1 ⊢
              clear CS CL
              obtain ⟨y0, y1⟩ := CW.out w1 HD1 li liK
              obtain ⟨z0, z1⟩ := CW.out w1 HD1 osi osiK
              have CO1 : Hid (∀ n, Calls Try.prog 27 #[pt S.I 7] (w1.drewN n) fun e w' => e = .returned (pt (S1.W osi) 0) ∧ w' = w1.drewN n) := fun n => CO.out _ (DR.trans HD1.out ⟨n, rfl⟩)
              go_wp2_with fail
              go_quiet (first | (go_at_call_of 27 (7 : Nat); refine Calls.quiet_of_same (CO1.out _)))
              have HD2 : Hid (DR wr (w1.drewN nq)) := DR.trans HD1.out ⟨nq, rfl⟩
              generalize w1.drewN nq = w2 at HD2 ⊢
              clear CO1 y0 y1 z0 z1
              obtain ⟨x0, x1⟩ := CW.out w2 HD2 li liK
              go_wp2_with fail
              refine (CFx.out w2 HD2).mono ?_
              rintro e w5 ⟨rfl, HD3⟩
              obtain ⟨y0, y1⟩ := CW.out w5 HD3 si siK
              obtain ⟨i0, i1, i2, i5, i6⟩ := CI.out w5 HD3
              go_wp2_with fail
              go_quiet (fail)
              have HD4 : Hid (DR wr (w5.drewN nq)) := DR.trans HD3.out ⟨nq, rfl⟩
              generalize w5.drewN nq = w6 at HD4 ⊢
              clear y0 y1 i0 i1 i2 i5 i6 x0 x1
              obtain ⟨M3, M4, T0, T1, T2, T3, T4⟩ := tail_facts HDm.out HB1.out HI.out HSm.out.I (P_kind KNs.out.1 |>.1) siK HOsi.out
              rw [Hsig.out] at T1 T2
              have t0 := T0.out _ HD4
              go_wp2_with fail
              refine (T1.out _ HD4).mono ?_
              rintro e wa ⟨rfl, rfl⟩
              go_wp2_with fail
              refine (T2.out _ HD4).mono ?_
              rintro e w3 ⟨rfl, HM3⟩
              have t3 := (T3.out w3 HM3).1
              go_wp2_with fail
              refine (T3.out w3 HM3).2.mono ?_
              rintro e w4 ⟨rfl, HM4⟩
              obtain ⟨t4, HCh, H5⟩ := T4.out w4 HM4
              obtain ⟨w7, hw7⟩ : ∃ w7, w7 = { w4 with heap := w4.heap.setIfInBounds (S1.Ch si) (.chan 0 #[] true 0 0 false) } := ⟨_, rfl⟩
              have hcl : ∀ ats ty, (Builtin.close_ ats ty #[.chan (some (S1.Ch si))]).run Try.prog w4 = .ok (.tuple #[]) w7 := fun ats ty => by rw [hw7]; exact run_close_open ats ty HCh
              rw [← hw7] at H5
              have H6 : Hid (∃ S5, Inv w0 w7 S5 pr (after pr st1 si osi) (after pr st1 si osi).wt ∧ Same S1 S5) := H5
              clear HCh H5 hw7
              go_wp2
              have HPk : Pick pr st1 (some si) := pick_mk KNs.out KNl.out (fun _ => HOs.out) (show choose pr st1 (some si) (some li) osi = some si from by simp only [choose, HFV.out, if_pos HLO.out, Bool.false_eq_true, if_false, if_pos HKp.out])
              obtain ⟨S5, V5, Q5⟩ := H6.out
              go_roundg (cnt (after pr st1 si osi).wt pr.K)
              case measure => exact cnt_after (P_kind KNs.out.1).1 siK
              case rel => exact ⟨S5, _, rfl, V5, HSm.out.trans Q5, Steps.tail HSt.out (Step.mk si osi HPk HOsi.out), bd_step HDm.out HB1.out siK HPk, fun hp => (by obtain ⟨_, e, _⟩ := HNo.out hp; rw [e] at HPk; cases pick_uniq hp HPk)⟩
            · have dk : decide (st1.held - st1.lheld + pr.sz si ≤ pr.room - pr.lroom) = false := decide_eq_false hk
              have HKp : Hid (¬ st1.held - st1.lheld + pr.sz si ≤ pr.room - pr.lroom) := hk
              clear hk
              go_wp2_with fail
              go_quiet (first | (go_at_call_of 26 (7 : Nat); refine Calls.quiet_of_same (CS.out _)) | (go_at_call_of 26 (14 : Nat); refine Calls.quiet_of_same (CL.out _)))
              have HD1 : Hid (DR wr (wr.drewN nq)) := ⟨nq, rfl⟩
              generalize wr.drewN nq = w1 at HD1 ⊢
              clear CS CL
              obtain ⟨y0, y1⟩ := CW.out w1 HD1 li liK
              obtain ⟨z0, z1⟩ := CW.out w1 HD1 osi osiK
              have CO1 : Hid (∀ n, Calls Try.prog 27 #[pt S.I 7] (w1.drewN n) fun e w' => e = .returned (pt (S1.W osi) 0) ∧ w' = w1.drewN n) := fun n => CO.out _ (DR.trans HD1.out ⟨n, rfl⟩)
              go_wp2_with fail
              go_quiet (first | (go_at_call_of 27 (7 : Nat); refine Calls.quiet_of_same (CO1.out _)))
              have HD2 : Hid (DR wr (w1.drewN nq)) := DR.trans HD1.out ⟨nq, rfl⟩
              generalize w1.drewN nq = w2 at HD2 ⊢
              clear CO1 y0 y1 z0 z1
              obtain ⟨x0, x1⟩ := CW.out w2 HD2 li liK
              go_wp2_with fail
              refine (CFx.out w2 HD2).mono ?_
              rintro e w5 ⟨rfl, HD3⟩
              obtain ⟨y0, y1⟩ := CW.out w5 HD3 si siK
              obtain ⟨i0, i1, i2, i5, i6⟩ := CI.out w5 HD3
              go_wp2_with fail
              go_quiet (fail)
              have HD4 : Hid (DR wr (w5.drewN nq)) := DR.trans HD3.out ⟨nq, rfl⟩
              generalize w5.drewN nq = w6 at HD4 ⊢
              clear y0 y1 i0 i1 i2 i5 i6 x0 x1
              go_wp2
              exact bodyPost_ret (results_none rfl _ _ _) rfl ⟨rfl, S1, st1, HI.out.dr HD4, HSm, HSt, pick_mk KNs.out KNl.out (fun _ => HOs.out) (show choose pr st1 (some si) (some li) osi = none from by simp only [choose, HFV.out, if_pos HLO.out, Bool.false_eq_true, if_false, if_neg (show ¬ st1.held - st1.lheld + pr.sz si ≤ pr.room - pr.lroom by have := HKp.out; omega)]), HB1, fun hp => ⟨(HNo.out hp).1, (HNo.out hp).2.1, (HNo.out hp).2.2.trans HD4⟩⟩
        · have dlo : decide ((li : Int) < (osi : Int)) = false := by rw [decide_eq_false_iff_not]; omega
          have HLO : Hid (¬ li < osi) := hlo
          clear hlo
          have CFx : Hid (∀ w2, DR wr w2 → Calls Try.prog 28 #[pt S.I 0, .int .i64 (pr.sz si)] w2 fun e w' => e = .returned (.bool (fits pr st1 (pr.sz si))) ∧ Hid (DR wr w')) := fun w2 hd2 => CF.out w2 hd2 si siK
          obtain ⟨fv, hfv⟩ : ∃ fv, fits pr st1 (pr.sz si) = fv := ⟨_, rfl⟩
          have HFV : Hid (fits pr st1 (pr.sz si) = fv) := hfv
          rw [hfv] at CFx
          clear hfv
          cases fv with
          | true =>
            go_wp2_with fail
            go_quiet (first | (go_at_call_of 26 (7 : Nat); refine Calls.quiet_of_same (CS.out _)) | (go_at_call_of 26 (14 : Nat); refine Calls.quiet_of_same (CL.out _)))
            have HD1 : Hid (DR wr (wr.drewN nq)) := ⟨nq, rfl⟩
            generalize wr.drewN nq = w1 at HD1 ⊢
            clear CS CL
            obtain ⟨y0, y1⟩ := CW.out w1 HD1 li liK
            obtain ⟨z0, z1⟩ := CW.out w1 HD1 osi osiK
            have CO1 : Hid (∀ n, Calls Try.prog 27 #[pt S.I 7] (w1.drewN n) fun e w' => e = .returned (pt (S1.W osi) 0) ∧ w' = w1.drewN n) := fun n => CO.out _ (DR.trans HD1.out ⟨n, rfl⟩)
            go_wp2_with fail
            go_quiet (first | (go_at_call_of 27 (7 : Nat); refine Calls.quiet_of_same (CO1.out _)))
            have HD2 : Hid (DR wr (w1.drewN nq)) := DR.trans HD1.out ⟨nq, rfl⟩
            generalize w1.drewN nq = w2 at HD2 ⊢
            clear CO1 y0 y1 z0 z1
            obtain ⟨x0, x1⟩ := CW.out w2 HD2 si siK
            go_wp2_with fail
            refine (CFx.out w2 HD2).mono ?_
            rintro e w5 ⟨rfl, HD3⟩
            obtain ⟨M3, M4, T0, T1, T2, T3, T4⟩ := tail_facts HDm.out HB1.out HI.out HSm.out.I (P_kind KNs.out.1 |>.1) siK HOsi.out
            rw [Hsig.out] at T1 T2
            have t0 := T0.out _ HD3
            go_wp2_with fail
            refine (T1.out _ HD3).mono ?_
            rintro e wa ⟨rfl, rfl⟩
            go_wp2_with fail
            refine (T2.out _ HD3).mono ?_
            rintro e w3 ⟨rfl, HM3⟩
            have t3 := (T3.out w3 HM3).1
            go_wp2_with fail
            refine (T3.out w3 HM3).2.mono ?_
            rintro e w4 ⟨rfl, HM4⟩
            obtain ⟨t4, HCh, H5⟩ := T4.out w4 HM4
            obtain ⟨w7, hw7⟩ : ∃ w7, w7 = { w4 with heap := w4.heap.setIfInBounds (S1.Ch si) (.chan 0 #[] true 0 0 false) } := ⟨_, rfl⟩
            have hcl : ∀ ats ty, (Builtin.close_ ats ty #[.chan (some (S1.Ch si))]).run Try.prog w4 = .ok (.tuple #[]) w7 := fun ats ty => by rw [hw7]; exact run_close_open ats ty HCh
            rw [← hw7] at H5
            have H6 : Hid (∃ S5, Inv w0 w7 S5 pr (after pr st1 si osi) (after pr st1 si osi).wt ∧ Same S1 S5) := H5
            clear HCh H5 hw7
            go_wp2
            have HPk : Pick pr st1 (some si) := pick_mk KNs.out KNl.out (fun _ => HOs.out) (show choose pr st1 (some si) (some li) osi = some si from by simp only [choose, HFV.out, if_neg HLO.out, if_true])
            obtain ⟨S5, V5, Q5⟩ := H6.out
            go_roundg (cnt (after pr st1 si osi).wt pr.K)
            case measure => exact cnt_after (P_kind KNs.out.1).1 siK
            case rel => exact ⟨S5, _, rfl, V5, HSm.out.trans Q5, Steps.tail HSt.out (Step.mk si osi HPk HOsi.out), bd_step HDm.out HB1.out siK HPk, fun hp => (by obtain ⟨_, e, _⟩ := HNo.out hp; rw [e] at HPk; cases pick_uniq hp HPk)⟩
          | false =>
            go_wp2_with fail
            go_quiet (first | (go_at_call_of 26 (7 : Nat); refine Calls.quiet_of_same (CS.out _)) | (go_at_call_of 26 (14 : Nat); refine Calls.quiet_of_same (CL.out _)))
            have HD1 : Hid (DR wr (wr.drewN nq)) := ⟨nq, rfl⟩
            generalize wr.drewN nq = w1 at HD1 ⊢
            clear CS CL
            obtain ⟨y0, y1⟩ := CW.out w1 HD1 li liK
            obtain ⟨z0, z1⟩ := CW.out w1 HD1 osi osiK
            have CO1 : Hid (∀ n, Calls Try.prog 27 #[pt S.I 7] (w1.drewN n) fun e w' => e = .returned (pt (S1.W osi) 0) ∧ w' = w1.drewN n) := fun n => CO.out _ (DR.trans HD1.out ⟨n, rfl⟩)
            go_wp2_with fail
            go_quiet (first | (go_at_call_of 27 (7 : Nat); refine Calls.quiet_of_same (CO1.out _)))
            have HD2 : Hid (DR wr (w1.drewN nq)) := DR.trans HD1.out ⟨nq, rfl⟩
            generalize w1.drewN nq = w2 at HD2 ⊢
            clear CO1 y0 y1 z0 z1
            obtain ⟨x0, x1⟩ := CW.out w2 HD2 si siK
            go_wp2_with fail
            refine (CFx.out w2 HD2).mono ?_
            rintro e w5 ⟨rfl, HD3⟩
            go_wp2
            exact bodyPost_ret (results_none rfl _ _ _) rfl ⟨rfl, S1, st1, HI.out.dr HD3, HSm, HSt, pick_mk KNs.out KNl.out (fun _ => HOs.out) (show choose pr st1 (some si) (some li) osi = none from by simp only [choose, HFV.out, if_neg HLO.out, Bool.false_eq_true, if_false]), HB1, fun hp => ⟨(HNo.out hp).1, (HNo.out hp).2.1, (HNo.out hp).2.2.trans HD3⟩⟩
end Go.Proofs.Qxb6616981a
