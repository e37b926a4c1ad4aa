/-
  'Rows.FnSpareFollowsOneRowSaid', PROVED: the law's Go text answers true whatever the input, and what came in reads behind the call as it did.
  No shell lay for this row (it takes a map): the frame is the seat's shells' own way (a slice of integers; 'Below') with the map opened by the library's laws.
-/
import Derived.Test.Qxb6617836aRows
import Derived.WalkKit
import Derived.ProofKit
import Derived.OpenShut
import Derived.ShutString
import Derived.ChangeOld
import Derived.Below
import Derived.WideKeyArgs
import Derived.WideKeyElems2
import Derived.ChangeKeys
import Derived.Test.Qxb6617836aTop
import Derived.Test.Qxb6617836aShort
namespace Go.Proofs.Qxb6617836a.fnSpareFollowsOneRow
open Go.ChangeShapes Go.WideShapes Go.ChangeAt Go.RowKit Go.WideElems
set_option linter.unusedVariables false

theorem own : ownKnob Try.prog.godebug = none := by kernel_rfl
theorem laidOut : laidOutB Try.prog = true := by kernel_rfl

/-- WHAT THE WALK IS TOLD OF A SLICE OF INTEGERS THAT CAME IN: it is nil; or it leads to a row of 'cap' cells, the numbers 'zs' (the first 'len' are its elements, the rest its spare room), each fitting its kind. -/
def IsRow (k : IntKind) (w : World) (a : Option Addr) (len cap : Nat) (zs : List Int) : Prop :=
  (a = none ∧ len = 0 ∧ cap = 0 ∧ zs = []) ∨
  ∃ x, a = some x ∧ len ≤ cap ∧ cap ≤ maxLen ∧ zs.length = cap ∧ (∀ i, i < zs.length → w.cell? (x.add i) = some (.int k (zs.getD i 0))) ∧ ∀ n ∈ zs, (Lit.int k n).wf = true

theorem sl_of_row {w : World} {a : Option Addr} {len cap : Nat} {zs : List Int} (h : IsRow .u32 w a len cap zs) : Sl .u32 w a len (fun j => zs.getD j 0) ∧ len ≤ maxLen ∧ (a.isSome = false → len = 0) := by
  rcases h with ⟨ha, h0, hc, _⟩ | ⟨x, rfl, hl, hm, hz, hc, _⟩
  · exact ⟨fun h => by omega, by omega, fun _ => by omega⟩
  · refine ⟨fun hn => ?_, by omega, fun h => by simp at h⟩
    obtain ⟨b, off, rfl, hc'⟩ := ints_at hc (by omega)
    exact ⟨b, off, rfl, World.block_lt_of_cell? _ _ (hc' 0 (by omega)), fun j hj => hc' j (by omega)⟩

/-! ### THE WALK: the Go text returns true, and writes nothing that was there. -/
theorem walk (a0 a1 : Int) (s0 : Option Addr) (len0 cap0 : Nat) (z0 : List Int) (mo : Option Nat) (mk : Int → Option Bool) (a4 a5 a6 : Int) (w : World) (w0 : (Lit.int .u8 a0).wf = true) (w1 : (Lit.int .i64 a1).wf = true) (w2 : IsRow .u32 w s0 len0 cap0 z0)
    (w3 : MapAt w (.map mo) mk) (w4 : (Lit.int .u8 a4).wf = true) (w5 : (Lit.int .i64 a5).wf = true) (w6 : (Lit.int .u32 a6).wf = true) :
    Calls Try.prog 4 #[.int .u8 a0, .int .i64 a1, .slice s0 len0 cap0, .map mo, .int .u8 a4, .int .i64 a5, .int .u32 a6] w fun e w' => e = .returned (.bool true) ∧ Below w.heap.size w w' := by
  obtain ⟨hs, m0, hnil⟩ := sl_of_row w2
  have b0 := bounds_u8 w0
  have b4 := bounds_u8 w4
  by_cases c1 : len0 ≤ 65536
  · by_cases c2 : 1 ≤ a1
    · obtain ⟨first, rfl⟩ : ∃ p : Nat, a0 = p := ⟨a0.toNat, by omega⟩
      obtain ⟨k, rfl⟩ : ∃ p : Nat, a4 = p := ⟨a4.toNat, by omega⟩
      obtain ⟨width, rfl⟩ : ∃ p : Nat, a1 = p := ⟨a1.toNat, by omega⟩
      obtain ⟨c, hc⟩ : ∃ c, c = len0 / width := ⟨_, rfl⟩
      by_cases c3 : first + c ≤ 256
      · by_cases c4 : first ≤ k
        · by_cases c5 : k < first + c
          · by_cases c6 : 0 ≤ a5
            · by_cases c7 : a5 < width
              · obtain ⟨off, rfl⟩ : ∃ p : Nat, a5 = p := ⟨a5.toNat, by omega⟩
                by_cases c8 : a6 = 0
                · exact no_sym first width c k off a6 s0 len0 cap0 _ w c1 (by omega) hc c3 c4 c5 (by omega) c8
                · exact top_any first width k off len0 c cap0 (k - first) ((k - first) * width) a6 s0 _ mo mk w hs w3 hnil c1 (by omega) hc c3 c4 c5 (by omega) c8 rfl rfl
              · exact no_off first width c k a5 a6 s0 len0 cap0 _ w c1 (by omega) hc c3 c4 c5 (by omega)
            · exact no_neg first width c k a5 a6 s0 len0 cap0 _ w c1 (by omega) hc c3 c4 c5 (by omega)
          · exact no_high first width c k a5 a6 s0 len0 cap0 _ w c1 (by omega) hc c3 (by omega) (by omega)
        · exact no_low first width c k a5 a6 s0 len0 cap0 _ w c1 (by omega) hc c3 (by omega) (by omega)
      · exact no_room first width c k a5 a6 s0 len0 cap0 _ w c1 (by omega) (by omega) hc (by omega)
    · exact no_width a0 a1 a4 a5 a6 s0 len0 cap0 _ w (by rw [decide_eq_false_iff_not]; omega) (by rw [decide_eq_true_eq]; omega)
  · exact no_long a0 a1 a4 a5 a6 s0 len0 cap0 _ w (by rw [decide_eq_true_eq]; omega)

/-- Entries that read as data are from bytes to bools. -/
theorem plain_of_fit {H : Type} {enc : TypeId × Value → H} {W : World} {n : Nat} {es : Array MapEntry} {clock : Nat} (F : Fit Try.prog 5 (elemAt enc Try.prog W 0 (fun _ => true) true n 4) es clock) : Plain es.toList := by
  intro x hx
  obtain ⟨y, hy⟩ := F.reads x hx
  have hk := rd_key hy
  rw [keyOf_int und5] at hk
  obtain ⟨z, hz, _⟩ := rd_val hy
  obtain ⟨b, hb, _⟩ := elemAt_bool Try.underlying4 hz
  unfold mapKey at hk
  rw [und5] at hk
  cases hxk : x.key with
  | int q a =>
    rw [hxk] at hk
    dsimp only at hk
    split at hk
    · rename_i h; rw [h.1]; exact ⟨a, b, rfl, hb⟩
    · cases hk
  | _ => rw [hxk] at hk; cases hk

set_option maxRecDepth 100000 in
theorem lifted (os : Os) (started : os.Started) (H : Type) (enc : TypeId × Value → H) :
    ReturnsInHanded {} Try.checked os 4 .any (Rows.fnSpareFollowsOneRowSpec.pre6 enc Try.prog Try.f4 Rows.fnSpareFollowsOneRowRow.domain false) (Rows.fnSpareFollowsOneRowSpec.post enc Try.prog Try.f4 false true false false) := by
  refine returnsInHanded_of_change (C := Try.checked) own started (by kernel_rfl) Try.func4
    (ChangeSpec.witness6 (enc := enc) (C := Try.checked) false ⟨#[], #[.int .u8 0, .int .i64 0, .slice none 0 0, .map none, .int .u8 0, .int .i64 0, .int .u32 0], []⟩ 8 (by kernel_rfl) (by kernel_rfl) (by kernel_rfl) (by kernel_rfl)) ?_
  intro W base args ds gs before hval0 hW hcnd _
  have hval : ∀ (j : Nat) t v, Try.f4.params[j]? = some t → args[j]? = some v → Value.okWide Try.prog W .any base t v := hval0
  have hW' := hW
  obtain ⟨p, q, hA0, hV, rfl, hfz, hnd⟩ := hW
  have hA : DataW.TrodAll enc Try.prog W 0 (fun _ => true) true Try.f4.params.toList args.toList ds p := hA0
  rw [Try.params4] at hA hval
  obtain ⟨v0, vs0, d0, ds0, p0, q0, hargs, rfl, rfl, h0, r0⟩ := trodAll_cons hA
  obtain ⟨v1, vs1, d1, ds1, p1, q1, rfl, rfl, rfl, h1, r1⟩ := trodAll_cons r0
  obtain ⟨v2, vs2, d2, ds2, p2, q2, rfl, rfl, rfl, h2, r2⟩ := trodAll_cons r1
  obtain ⟨v3, vs3, d3, ds3, p3, q3, rfl, rfl, rfl, h3, r3⟩ := trodAll_cons r2
  obtain ⟨v4, vs4, d4, ds4, p4, q4, rfl, rfl, rfl, h4, r4⟩ := trodAll_cons r3
  obtain ⟨v5, vs5, d5, ds5, p5, q5, rfl, rfl, rfl, h5, r5⟩ := trodAll_cons r4
  obtain ⟨v6, vs6, d6, ds6, p6, q6, rfl, rfl, rfl, h6, r6⟩ := trodAll_cons r5
  obtain ⟨rfl, rfl, rfl⟩ := trodAll_nil r6
  obtain rfl : args = #[v0, v1, v2, v3, v4, v5, v6] := by cases args; simp_all
  obtain ⟨rfl, rfl⟩ := trodVars_none hV
  obtain ⟨a2, len2, cap2, rfl⟩ := okWide_slice Try.underlying22 (hval 2 22 v2 rfl rfl)
  have k2 := h2
  have lt2 : ∀ x ∈ p2, x.block < W.heap.size := by obtain ⟨m, hm⟩ := k2; exact DataW.trod_lt m _ _ _ hm
  obtain ⟨z2, w2⟩ : ∃ zs, IsRow .u32 W a2 len2 cap2 zs := by
    obtain ⟨fuel, hf⟩ := h2
    rcases open_ints Try.underlying22 Try.underlying24 (by kernel_rfl) hf with ⟨hcs, _⟩ | ⟨x, l, c, zs, hcs, _, hl, hm, hz, _, hcell, hwz⟩
    · simp [Value.cells] at hcs
      obtain ⟨rfl, rfl, rfl⟩ := hcs
      exact ⟨[], .inl ⟨rfl, rfl, rfl, rfl⟩⟩
    · simp [Value.cells] at hcs
      obtain ⟨rfl, rfl, rfl⟩ := hcs
      exact ⟨zs, .inr ⟨_, rfl, hl, hm, by simpa using hz, hcell, hwz⟩⟩
  obtain ⟨mo, rfl⟩ := okWide_map Try.underlying31 (hval 3 31 v3 rfl rfl)
  have k3 := h3
  have lt3 : ∀ x ∈ p3, x.block < W.heap.size := by obtain ⟨m, hm⟩ := k3; exact DataW.trod_lt m _ _ _ hm
  obtain ⟨mk, w3⟩ : ∃ mk, MapAt W (.map mo) mk := by
    obtain ⟨fuel, hf⟩ := h3
    rcases open_map Try.underlying31 hf with ⟨hcs, _⟩ | ⟨bm, es, clock, m, rfl, hcs, hb, _, F, _⟩
    · simp [Value.cells] at hcs
      subst hcs
      exact ⟨fun _ => none, .inl ⟨rfl, fun _ => rfl⟩⟩
    · simp [Value.cells] at hcs
      subst hcs
      have hlt : bm < W.heap.size := by
        rcases Nat.lt_or_ge bm W.heap.size with h | h
        · exact h
        · rw [Array.getElem?_eq_none h] at hb; cases hb
      exact ⟨getK es.toList, .inr ⟨bm, es, clock, rfl, hlt, hb, plain_of_fit F, fun _ => rfl⟩⟩
  obtain ⟨a0, rfl, rfl, rfl, w0⟩ := open_int Try.underlying5 (hval 0 5 v0 rfl rfl) h0
  obtain ⟨a1, rfl, rfl, rfl, w1⟩ := open_int Try.underlying3 (hval 1 3 v1 rfl rfl) h1
  obtain ⟨a4, rfl, rfl, rfl, w4⟩ := open_int Try.underlying5 (hval 4 5 v4 rfl rfl) h4
  obtain ⟨a5, rfl, rfl, rfl, w5⟩ := open_int Try.underlying3 (hval 5 3 v5 rfl rfl) h5
  obtain ⟨a6, rfl, rfl, rfl, w6⟩ := open_int Try.underlying24 (hval 6 24 v6 rfl rfl) h6
  clear hA0 hval0
  refine (walk a0 a1 a2 len2 cap2 z2 mo mk a4 a5 a6 W w0 w1 w2 w3 w4 w5 w6).mono fun e W' ⟨he, bel⟩ => ?_
  subst he
  exact ⟨_, rfl, _, _, _, [], _, [], hW', trodAll_mk1 (shut_bool Try.underlying4 _), (trodAll_cons_mk (shut_int Try.underlying5 w0) (trodAll_cons_mk (shut_int Try.underlying3 w1) (trodAll_cons_mk (Below.trod laidOut (by kernel_rfl) (of_decide_eq_true (by kernel_rfl)) k2 bel lt2) (trodAll_cons_mk (Below.trod laidOut (by kernel_rfl) (of_decide_eq_true (by kernel_rfl)) k3 bel lt3) (trodAll_cons_mk (shut_int Try.underlying5 w4) (trodAll_cons_mk (shut_int Try.underlying3 w5) (trodAll_cons_mk (shut_int Try.underlying24 w6) trodAll_mk0))))))), rfl, bel.frame _, fun h => by cases h⟩

theorem over : Rows.fnSpareFollowsOneRowRow.holds Try.pinned (OpenSpec.ofChange Rows.fnSpareFollowsOneRowSpec) :=
  OpenClaim.holds_of_wide 4 Try.f4 rfl rfl rfl rfl rfl rfl rfl ⟨rfl, rfl, rfl, rfl, rfl⟩ rfl rfl rfl rfl rfl (by kernel_rfl) Try.func4 (by kernel_rfl)
    (of_decide_eq_true (by kernel_rfl)) (by unfold Func.isWrapper; first | (rw [if_pos (by decide +kernel)]; kernel_rfl) | (rw [if_neg (by decide +kernel)]; exact ⟨rfl, rfl⟩))
    (fun os started H enc _ => lifted os started H enc)

/-- ████ THE STATEMENT ████ -/
theorem proved : Rows.FnSpareFollowsOneRowSaid := over
#print axioms proved
end Go.Proofs.Qxb6617836a.fnSpareFollowsOneRow
