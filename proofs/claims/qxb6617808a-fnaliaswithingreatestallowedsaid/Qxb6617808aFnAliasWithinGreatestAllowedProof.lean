/-
  THE SHELL OF A PROOF OF 'Rows.FnAliasWithinGreatestAllowedSaid' ('example.com/rolewarden/rolewarden/zzlaws_root_b1.FnAliasWithinGreatestAllowed'), WRITTEN BY PROGRAM (proof-skeleton.mjs) off the guide's own print for that function. Not trusted: Lean checks it.
  THE HOLE IS FILLED. ALL ELSE IS THE GUIDE's TEMPLATE (howto/template/XProofs.lean) at this function's number and types: leave it.
-/
import Derived.Test.Qxb6617808aRows
import Derived.WalkKit
import Derived.ProofKit
import Derived.OpenShut
import Derived.ShutString
import Derived.Test.Qxb6617808aLimit
namespace Go.Proofs.Qxb6617808a.fnAliasWithinGreatestAllowed
open Go.ChangeShapes Go.WideShapes Go.ChangeAt Go.RowKit
open Go.ChangeMaps (open_string shut_string)
set_option linter.unusedVariables false      -- a walk need not use every 'w<i>' (that an integer argument fits its kind)

theorem own : ownKnob Try.prog.godebug = none := by kernel_rfl

theorem i64_bounds {n : Int} (h : (Lit.int .i64 n).wf = true) : -9223372036854775808 ≤ n ∧ n ≤ 9223372036854775807 := by
  have := bounds_i64 h
  omega

theorem num_le (d M : Nat) (h1 : 400000 < d) (h2 : d < 4000000) (hM : M + 89 * d = 392000000) : 36000000000 ≤ d * M ∧ d * M ≤ 1568000000000000 := by
  constructor
  · have a : 36000000 ≤ M := by omega
    exact Nat.le_trans (by decide) (Nat.mul_le_mul (Nat.le_of_lt h1) a)
  · exact Nat.le_trans (Nat.mul_le_mul (Nat.le_of_lt h2) (show M ≤ 392000000 by omega)) (by decide)

/-! ### STEP 1: THE WALK: the Go text returns true. -/
theorem walk (a0 : Int) (a1 : Int) (w0 : (Lit.int .i64 a0).wf = true) (w1 : (Lit.int .i64 a1).wf = true) (w : World) :
    Calls Try.prog 5 #[.int .i64 a0, .int .i64 a1] w fun e w' => e = .returned (.bool true) ∧ Grown w w' := by
  have b0 := i64_bounds w0
  have b1 := i64_bounds w1
  by_cases c0 : 281474976710656 < a0
  · exact top_far a0 a1 w (decide_eq_true c0)
  · by_cases c1 : a0 ≤ 1000
    · exact top_open a0 a1 w (decide_eq_false c0) c1
    · obtain ⟨d, rfl⟩ := int_of a0 (by omega)
      by_cases c2 : d ≤ 400000
      · refine top_closed d a1 ((99 * d / 100 : Nat) : Int) w (decide_eq_false c0) b1.2 (by omega) (by omega) (fun w => ?_) (fun a w ha => zz_low d a w (by omega) c2 ha)
        have e1 : wrap64 (99 * (d : Int)) = ((99 * d : Nat) : Int) := by unfold wrap64; omega
        have e2 : wrap64 (((99 * d : Nat) : Int).tdiv 100) = ((99 * d / 100 : Nat) : Int) := by
          rw [Int.tdiv_eq_ediv_of_nonneg (by omega)]; unfold wrap64; omega
        rw [← e2]
        exact lim_low d _ w (decide_eq_false c1) (decide_eq_true (by omega)) e1
      · by_cases c3 : 4000000 ≤ d
        · refine top_closed d a1 ((d / 10 : Nat) : Int) w (decide_eq_false c0) b1.2 (by omega) (by omega) (fun w => ?_) (fun a w ha => zz_high d a w c3 (by omega) ha)
          have e2 : wrap64 ((d : Int).tdiv 10) = ((d / 10 : Nat) : Int) := by
            rw [Int.tdiv_eq_ediv_of_nonneg (by omega)]; unfold wrap64; omega
          rw [← e2]
          exact lim_high d w (decide_eq_false c1) (decide_eq_false (by omega)) (decide_eq_true (by omega))
        · obtain ⟨M, hM⟩ : ∃ M, M + 89 * d = 392000000 := ⟨392000000 - 89 * d, by omega⟩
          obtain ⟨n1, n2⟩ := num_le d M (by omega) (by omega) hM
          obtain ⟨n, hn⟩ : ∃ n, n = d * M := ⟨_, rfl⟩
          rw [← hn] at n1 n2
          have e1 : wrap64 (89 * (d : Int)) = ((89 * d : Nat) : Int) := by unfold wrap64; omega
          have e2 : wrap64 (392000000 - ((89 * d : Nat) : Int)) = (M : Int) := by unfold wrap64; omega
          have e3 : wrap64 ((d : Int) * (M : Int)) = (n : Int) := by
            have : (d : Int) * (M : Int) = (n : Int) := by rw [hn]; exact (Int.natCast_mul d M).symm
            rw [this]; unfold wrap64; omega
          have e4 : wrap64 ((n : Int).tdiv 360000000) = ((n / 360000000 : Nat) : Int) := by
            rw [Int.tdiv_eq_ediv_of_nonneg (by omega)]; unfold wrap64; omega
          have e5 : (n : Int).tmod 360000000 = ((n % 360000000 : Nat) : Int) := by
            rw [Int.tmod_eq_emod_of_nonneg (by omega)]; omega
          have hlim := fun w => lim_slope d _ _ _ _ _ w (decide_eq_false c1) (decide_eq_false (by omega)) (decide_eq_false (by omega)) e1 e2 e3 e4 e5
          by_cases ce : 5 ≤ n % 360000000 ∧ n % 360000000 ≤ 359999995
          · refine top_closed d a1 ((n / 360000000 : Nat) : Int) w (decide_eq_false c0) b1.2 (by omega) (by omega) (fun w => ?_)
              (fun a w ha => zz_slope d M (n / 360000000) (n % 360000000) a w (by omega) (by omega) ha hM (by rw [← hn]; omega) ce.1 ce.2 (by omega))
            have hl := hlim w
            rw [decide_eq_false (by omega), decide_eq_false (by omega)] at hl
            exact hl
          · refine top_edge d a1 ((n / 360000000 : Nat) : Int) w (decide_eq_false c0) (fun w => ?_)
            have hl := hlim w
            have eb : (decide (((n % 360000000 : Nat) : Int) ≤ 4) || decide (359999996 ≤ ((n % 360000000 : Nat) : Int))) = true := by
              rw [Bool.or_eq_true, decide_eq_true_eq, decide_eq_true_eq]; omega
            rw [eb] at hl
            exact hl

/-! ### THE ROW's STEP: WRITTEN OUT: LEAVE IT -/
set_option maxRecDepth 100000 in
theorem lifted (os : Os) (started : os.Started) (H : Type) (enc : TypeId × Value → H) :
    ReturnsInHanded {} Try.checked os 5 .any (Rows.fnAliasWithinGreatestAllowedSpec.pre6 enc Try.prog Try.f5 Rows.fnAliasWithinGreatestAllowedRow.domain false) (Rows.fnAliasWithinGreatestAllowedSpec.post enc Try.prog Try.f5 false true false false) := by
  refine returnsInHanded_of_change (C := Try.checked) own started (by kernel_rfl) Try.func5
    (ChangeSpec.witness6 (enc := enc) (C := Try.checked) false ⟨#[], #[.int .i64 0, .int .i64 0], []⟩ 8 (by kernel_rfl) (by kernel_rfl) (by kernel_rfl) (by kernel_rfl)) ?_
  intro W base args ds gs before hval0 hW hcnd _
  have hval : ∀ (j : Nat) t v, Try.f5.params[j]? = some t → args[j]? = some v → Value.okWide Try.prog W .any base t v := hval0
  have hW' := hW
  obtain ⟨p, q, hA0, hV, rfl, hfz, hnd⟩ := hW
  have hA : DataW.TrodAll enc Try.prog W 0 (fun _ => true) true Try.f5.params.toList args.toList ds p := hA0
  rw [Try.params5] at hA hval
  obtain ⟨v0, vs0, d0, ds0, p0, q0, hargs, rfl, rfl, h0, r0⟩ := trodAll_cons hA
  obtain ⟨v1, vs1, d1, ds1, p1, q1, rfl, rfl, rfl, h1, r1⟩ := trodAll_cons r0
  obtain ⟨rfl, rfl, rfl⟩ := trodAll_nil r1
  obtain rfl : args = #[v0, v1] := by cases args; simp_all
  obtain ⟨rfl, rfl⟩ := trodVars_none hV
  obtain ⟨a0, rfl, rfl, rfl, w0⟩ := open_int Try.underlying3 (hval 0 3 v0 rfl rfl) h0
  obtain ⟨a1, rfl, rfl, rfl, w1⟩ := open_int Try.underlying3 (hval 1 3 v1 rfl rfl) h1
  clear hA0 hval0
  simp only [List.append_nil] at hW'
  refine (walk a0 a1 w0 w1 W).mono fun e W' ⟨he, hg⟩ => ?_
  subst he
  exact ⟨_, rfl, post_of_same (pa := []) (pv := []) hW' (fun _ _ _ => (trodAll_cons_mk (shut_bool Try.underlying4 _) trodAll_mk0)) (fun sp _ => (trodAll_cons_mk (shut_int Try.underlying3 w0) (trodAll_cons_mk (shut_int Try.underlying3 w1) trodAll_mk0))) (fun _ _ => rfl) rfl
    (hg.frame _) hg.2.1 (ok_one (by kernel_rfl) rfl (okWide_bool_mk Try.underlying4 _))⟩

theorem over : Rows.fnAliasWithinGreatestAllowedRow.holds Try.pinned (OpenSpec.ofChange Rows.fnAliasWithinGreatestAllowedSpec) :=
  OpenClaim.holds_of_wide 5 Try.f5 rfl rfl rfl rfl rfl rfl rfl ⟨rfl, rfl, rfl, rfl, rfl⟩ rfl rfl rfl rfl rfl (by kernel_rfl) Try.func5 (by kernel_rfl)
    (of_decide_eq_true (by kernel_rfl)) (by unfold Func.isWrapper; first | (rw [if_pos (by decide +kernel)]; kernel_rfl) | (rw [if_neg (by decide +kernel)]; exact ⟨rfl, rfl⟩))
    (fun os started H enc _ => lifted os started H enc)

/-- ████ THE STATEMENT ████ -/
theorem proved : Rows.FnAliasWithinGreatestAllowedSaid :=
  over
#print axioms proved
end Go.Proofs.Qxb6617808a.fnAliasWithinGreatestAllowed
