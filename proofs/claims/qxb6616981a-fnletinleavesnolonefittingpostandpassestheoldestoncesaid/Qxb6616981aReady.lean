/-
  ZZready, walked: a select of one receive case with a default, the channel open and empty, or closed.
-/
import Derived.Test.Qxb6616981aBase
namespace Go.Proofs.Qxb6616981a
open Go.Conc Go.RowKit
set_option maxRecDepth 100000

theorem ready_open (wb cb : Nat) (w : World) (h2 : w.cell? ⟨wb, 2, none⟩ = some (.chan (some cb))) (hc : w.heap[cb]? = some (.chan 0 #[] false 0 0 false)) :
    Calls Try.prog 8 #[pt wb 0] w fun e w' => e = .returned (.bool false) ∧ w' = w := by
  refine calls_of_loneTo fun cs => ?_
  have e : Frame.enter Try.prog 8 #[pt wb 0] .normal = (base 8).at ⟨#[pt wb 0, undef, undef, undef, undef, undef, undef, undef, undef, undef], []⟩ [.code (Try.f8.body.getD .skip)] := by
    simp [Frame.enter, Frame.at, Try.func8, base, Try.f8]
  rw [e]
  refine LoneTo.goes (n := 13) ?_
  simp only [Try.f8, Option.getD_some]
  s_c stepG_seq
  s_reg
  s_op
  s_c stepG_region_end
  s_c stepG_seq
  s_reg
  s_op
  s_op
  s_op
  s_op
  s_c stepG_region_end
  s_c stepG_seq
  s_reg
  s_stop
  refine LoneTo.step (step_lone_select_default (c := cb) (z := .agg #[]) (cap := 0) (s := 0) (r := 0) (tm := false) (stepG_comm (cases := #[rcase cb (.agg #[])]) (blocking := false) (shape := .select) (w' := w) rfl rfl (by decide) (by simp [go_sem, execOp, rcase, Act.eval])) hc) ?_
  rw [Frame.finish_at]
  walk_nrm
  refine LoneTo.goes (n := 10) ?_
  s_op
  s_op
  s_c stepG_region_end
  s_c stepG_block
  s_cond false
  s_c stepG_seq
  s_reg
  s_op
  s_c stepG_region_end
  s_c stepG_ret'
  s_stop
  exact LoneTo.done ⟨.returned (.bool false), _, rfl, ⟨rfl, rfl⟩, rfl, rfl, rfl, rfl, _, Try.func8, by simp [results, Try.f8, Frame.at]⟩

theorem ready_shut (wb cb : Nat) (w : World) (h2 : w.cell? ⟨wb, 2, none⟩ = some (.chan (some cb))) (hc : w.heap[cb]? = some (.chan 0 #[] true 0 0 false)) :
    Calls Try.prog 8 #[pt wb 0] w fun e w' => e = .returned (.bool true) ∧ w' = w := by
  refine calls_of_loneTo fun cs => ?_
  have e : Frame.enter Try.prog 8 #[pt wb 0] .normal = (base 8).at ⟨#[pt wb 0, undef, undef, undef, undef, undef, undef, undef, undef, undef], []⟩ [.code (Try.f8.body.getD .skip)] := by
    simp [Frame.enter, Frame.at, Try.func8, base, Try.f8]
  rw [e]
  refine LoneTo.goes (n := 13) ?_
  simp only [Try.f8, Option.getD_some]
  s_c stepG_seq
  s_reg
  s_op
  s_c stepG_region_end
  s_c stepG_seq
  s_reg
  s_op
  s_op
  s_op
  s_op
  s_c stepG_region_end
  s_c stepG_seq
  s_reg
  s_stop
  refine LoneTo.step (step_lone_select_recv_shut (c := cb) (z := .agg #[]) (cap := 0) (s := 0) (r := 0) (tm := false) (stepG_comm (cases := #[rcase cb (.agg #[])]) (blocking := false) (shape := .select) (w' := w) rfl rfl (by decide) (by simp [go_sem, execOp, rcase, Act.eval])) hc) ?_
  rw [Frame.finish_at]
  walk_nrm
  refine LoneTo.goes (n := 10) ?_
  s_op
  s_op
  s_c stepG_region_end
  s_c stepG_block
  s_cond true
  s_c stepG_seq
  s_reg
  s_op
  s_c stepG_region_end
  s_c stepG_ret'
  s_stop
  exact LoneTo.done ⟨.returned (.bool true), _, rfl, ⟨rfl, rfl⟩, rfl, rfl, rfl, rfl, _, Try.func8, by simp [results, Try.f8, Frame.at]⟩

theorem ready_rep {w0 w : World} {S : St} {i : Nat} (h : Rep w0 w S) (hi : i < S.nW) (hc : S.wc i 2 = .chan (some (S.Ch i))) :
    Calls Try.prog 8 #[pt (S.W i) 0] w fun e w' => e = .returned (.bool (S.shut i)) ∧ w' = w := by
  have h2 : w.cell? ⟨S.W i, 2, none⟩ = some (.chan (some (S.Ch i))) := by rw [h.wat i hi 2 (by omega), hc]
  have h3 := (h.chan i hi).2
  cases e : S.shut i with
  | false => rw [e] at h3; exact ready_open _ _ w h2 h3
  | true => rw [e] at h3; exact ready_shut _ _ w h2 h3
end Go.Proofs.Qxb6616981a
