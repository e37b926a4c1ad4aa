import Derived.Test.Qxb6617836aZZ
namespace Go.Proofs.Qxb6617836a
open Go.RowKit

theorem sl_of_owns5 {w : World} {base : Nat} {v : Value} {L : List Nat} (h : w.ownsRow base 5 1 v L.length (vsOf L)) : ∃ a cap, v = .slice a L.length cap ∧ Sl .u8 w a L.length (bOf L) := by
  rcases h.2 with ⟨rfl, h2⟩ | ⟨g, cap, cur, rfl, h2, h3, h4, h5, h6, h7⟩
  · rw [h2]; exact ⟨none, 0, rfl, fun h => absurd h (Nat.lt_irrefl 0)⟩
  · refine ⟨_, _, rfl, fun _ => ⟨g, 0, rfl, (h.lt g rfl).2, fun j hj => ?_⟩⟩
    have hc := h.cells (g := g) rfl j (.int .u8 (bOf L j)) ?_
    · rw [Addr.add_lit] at hc; exact hc
    · unfold vsOf bOf
      rw [List.getElem?_map, List.getElem?_eq_getElem hj, Option.map_some, List.getD_eq_getElem?_getD, List.getElem?_eq_getElem hj]; rfl

theorem pushed {B : Nat} {W wr w3 : World} {o : Obj} {u : Value} {m : Nat} {xs : List Value} {t : TypeId} (hO : (wr.alloc o).ownsRow B t 1 u m xs) (hg : (wr.alloc o).grownBy w3 u.ownBlock) (hbel : Below B W wr) (hB : B ≤ wr.heap.size) : Below B W w3 :=
  (hbel.trans ((alloc_bel wr o).mono hB)).trans
    ⟨hg.os, hg.tape, hg.output, hg.size, fun j hj => hg.block j (by rw [World.size_alloc]; omega) (fun e => by have := (hO.lt j e.symm).1; omega)⟩

theorem vsOf_push (O : List Nat) (x : Nat) : vsOf (O ++ [x]) = vsOf O ++ [.int .u8 (x : Int)] := by unfold vsOf; rw [List.map_append]; rfl

/-- What the loop holds: the row so far. -/
structure Row (wr : World) (B : Nat) (v : Value) (O : List Nat) : Prop where
  owns : wr.ownsRow B 5 1 v O.length (vsOf O)

set_option maxRecDepth 100000 in
set_option maxHeartbeats 4000000 in
theorem same_any (a1 a2 : Option Addr) (n c1 c2 : Nat) (f : Nat → Int) (w : World) (h1 : Sl .u8 w a1 n f) (h2 : Sl .u8 w a2 n f) (hn : n ≤ 1000) :
    Calls Try.prog 12 #[.slice a1 n c1, .slice a2 n c2] w fun e w' => e = .returned (.bool true) ∧ Below w.heap.size w w' := by
  have H1 : Hid (Sl .u8 w a1 n f) := h1
  have H2 : Hid (Sl .u8 w a2 n f) := h2
  clear h1 h2
  go_enter Try.func12, Try.ntmps12
  go_wp2
  go_loopg [5] n (fun g i wr => ∃ k : Nat, k ≤ n ∧ g = n - k ∧ i = .int .i64 k ∧ Below w.heap.size w wr)
  case atStart => exact ⟨0, by omega, rfl, rfl, Below.refl _ _⟩
  case round =>
    obtain ⟨k, hk, rfl, rfl, hbel⟩ := hrel
    by_cases hlt : k < n
    · have hdn : decide ((k : Int) < (n : Int)) = true := by rw [decide_eq_true_eq]; omega
      obtain ⟨b, o, rfl, hlb, hc⟩ := (H1.out.below hbel) (by omega)
      have ck := hc k hlt
      clear hc
      obtain ⟨b', o', rfl, hlb', hc⟩ := (H2.out.below hbel) (by omega)
      have ck' := hc k hlt
      clear hc
      go_upto_region 6 with fail
      go_quiet (fail)
      all_goals go_wp2
      go_roundg (n - (k + 1))
      case measure => omega
      case rel => exact ⟨k + 1, by omega, rfl, by go_num, below_drewN hbel nq⟩
    · obtain rfl : k = n := by omega
      go_wp2
      go_ret
      exact ⟨rfl, hbel⟩

theorem ed_eq (k : Nat) (xs : List Nat) (p : Bool) : Pl.ed k (k :: xs) p = Pl.ed k xs p := by rw [Pl.ed, if_pos rfl]
theorem ed_skip {k x : Nat} (xs : List Nat) {p : Bool} (h : ¬ x = k) (h2 : ¬ (p = false ∧ k < x)) : Pl.ed k (x :: xs) p = x :: Pl.ed k xs p := by rw [Pl.ed, if_neg h, if_neg h2]
theorem ed_ins {k x : Nat} (xs : List Nat) (h : ¬ x = k) (h2 : k < x) : Pl.ed k (x :: xs) false = k :: x :: Pl.ed k xs true := by rw [Pl.ed, if_neg h, if_pos ⟨rfl, h2⟩]

theorem drop_step (L : List Nat) (i : Nat) (h : i < L.length) : L.drop i = L.getD i 0 :: L.drop (i + 1) := by
  rw [List.drop_eq_getElem_cons h, List.getD_eq_getElem?_getD, List.getElem?_eq_getElem h]; rfl

set_option maxRecDepth 100000 in
set_option maxHeartbeats 4000000 in
theorem edit_any (a0 : Option Addr) (c0 k : Nat) (put : Bool) (L : List Nat) (w : World) (h0 : Sl .u8 w a0 L.length (bOf L)) (hl : L.length ≤ 256) (hk : k < 256) (hL : ∀ i, bOf L i < 256) :
    Calls Try.prog 13 #[.slice a0 L.length c0, .int .u8 (k : Int), .bool put] w fun e w' =>
      ∃ a' cap, e = .returned (.slice a' (Pl.ed k L (!put)).length cap) ∧ Sl .u8 w' a' (Pl.ed k L (!put)).length (bOf (Pl.ed k L (!put))) ∧ Below w.heap.size w w' := by
  have H0 : Hid (Sl .u8 w a0 L.length (bOf L)) := h0
  have HL : Hid (∀ i, bOf L i < 256) := hL
  obtain ⟨n, hn⟩ : ∃ n, n = L.length := ⟨_, rfl⟩
  rw [← hn] at H0 hl ⊢
  have HN : Hid (n = L.length) := hn
  clear h0 hn hL
  have hmk0 := make_run 32 5 .u8 1 Try.underlying32 info5 (by decide) 0 (n + 1) (by omega) (by omega)
  have hmk1 : ∀ w : World, (Instr.makeSlice 32 (.int .i64 0) (.int .i64 ((n : Int) + 1))).run Try.prog w = .ok (.slice (some ⟨w.heap.size, 0, none⟩) 0 (n + 1)) (w.alloc (zr .u8 5 (n + 1))) := hmk0
  clear hmk0
  have hown0 : Hid (Row (w.alloc (zr .u8 5 (n + 1))) w.heap.size (.slice (some ⟨w.heap.size, 0, none⟩) 0 (n + 1)) []) := ⟨World.ownsRow_made w _ (n + 1) (Nat.le_refl _) (by unfold maxLen; omega) (by rw [size_madeCells]; simp)⟩
  go_enter Try.func13, Try.ntmps13
  go_wp2
  go_loopg [7, 8, 9] n (fun g v s i wr => ∃ (j : Nat) (O : List Nat) (pl : Bool), j ≤ n ∧ g = n - j ∧ i = .int .i64 j ∧ s = .bool pl ∧ Hid (Row wr w.heap.size v O) ∧ Hid (O ++ Pl.ed k (L.drop j) pl = Pl.ed k L (!put)) ∧ O.length ≤ 2 * j ∧ Below w.heap.size w wr)
  case atStart => exact ⟨0, [], !put, by omega, rfl, rfl, rfl, hown0, rfl, by simp, alloc_bel _ _⟩
  case round =>
    obtain ⟨j, O, pl, hj, rfl, rfl, rfl, HO, HE, hOl, hbel⟩ := hrel
    obtain ⟨i0, hi, hz0, hz1, hz2⟩ := info_parts info5
    by_cases hlt : j < n
    · have hdn : decide ((j : Int) < (n : Int)) = true := by rw [decide_eq_true_eq]; omega
      obtain ⟨b, o, rfl, hlb, hc⟩ := H0.out (by omega)
      obtain ⟨y, hy⟩ : ∃ y, y = L.getD j 0 := ⟨_, rfl⟩
      have hy1 : y < 256 := by
        have h := HL.out j
        unfold bOf at h
        rw [← hy] at h
        omega
      have ck : w.cell? ⟨b, o + j, none⟩ = some (.int .u8 (y : Int)) := by rw [hy]; exact hc j hlt
      have ckr : wr.cell? ⟨b, o + j, none⟩ = some (.int .u8 (y : Int)) := (hbel.cell (p := ⟨b, o + j, none⟩) hlb).trans ck
      have HE2 : Hid (O ++ Pl.ed k (y :: L.drop (j + 1)) pl = Pl.ed k L (!put)) := by
        have h := HE.out
        rw [drop_step L j (by have := HN.out; omega), ← hy] at h
        exact h
      clear hc hy
      by_cases e : y = k
      · subst e
        go_wp2
        go_roundg (n - (j + 1))
        case measure => omega
        case rel =>
          refine ⟨j + 1, O, pl, by omega, rfl, by go_num, rfl, HO, ?_, by omega, hbel⟩
          have h := HE2.out
          rw [ed_eq] at h
          exact h
      · have e1 : ((y : Int) == (k : Int)) = false := by rw [beq_eq_false_iff_ne]; omega
        have hne : ¬ y = k := e
        cases pl with
        | true =>
          have hO3 := ownsRow_below HO.out.owns (alloc_bel wr (.cells #[.int .u8 (y : Int)] 5))
          have hsz := hbel.size
          go_wp2_with (at_builtin; go_must (refine wpList_append_own _ rfl _ _ 32 rfl w.heap.size 5 i0 (.int .u8 0) 1 1 Try.underlying32 hi hz0 hz1 hz2 rfl (by decide) _ _ _ rfl hO3 ⟨wr.heap.size, 0, none⟩ 1 1 [.int .u8 (y : Int)] rfl rfl (cell_one_new _ _ _) (fun x hx => by simp at hx; subst hx; rfl) (by unfold maxLen; omega) (by omega) (by simp; omega) ?_))
          intro v3 w3 hown3 hgrow3 hnil3
          have HR3 : Hid (Row w3 w.heap.size v3 (O ++ [y])) := ⟨by rw [vsOf_push]; simp only [List.length_append, List.length_singleton]; exact hown3⟩
          have hb3 : Below w.heap.size w w3 := pushed hO3 hgrow3 hbel hsz
          clear hown3 hgrow3 hnil3 hO3 hsz
          go_wp2
          go_roundg (n - (j + 1))
          case measure => omega
          case rel =>
            refine ⟨j + 1, O ++ [y], true, by omega, rfl, by go_num, rfl, HR3, ?_, by simp; omega, hb3⟩
            have h := HE2.out
            rw [ed_skip _ hne (by simp)] at h
            show O ++ [y] ++ _ = _
            rw [List.append_assoc]; exact h
        | false =>
          by_cases hky : k < y
          · have e2 : decide ((k : Int) < (y : Int)) = true := by rw [decide_eq_true_eq]; omega
            have hO3 := ownsRow_below HO.out.owns (alloc_bel wr (.cells #[.int .u8 (k : Int)] 5))
            have hsz := hbel.size
            go_wp2_with (at_builtin; go_must (refine wpList_append_own _ rfl _ _ 32 rfl w.heap.size 5 i0 (.int .u8 0) 1 1 Try.underlying32 hi hz0 hz1 hz2 rfl (by decide) _ _ _ rfl hO3 ⟨wr.heap.size, 0, none⟩ 1 1 [.int .u8 (k : Int)] rfl rfl (cell_one_new _ _ _) (fun x hx => by simp at hx; subst hx; rfl) (by unfold maxLen; omega) (by omega) (by simp; omega) ?_))
            intro v3 w3 hown3 hgrow3 hnil3
            have HR3 : Hid (Row w3 w.heap.size v3 (O ++ [k])) := ⟨by rw [vsOf_push]; simp only [List.length_append, List.length_singleton]; exact hown3⟩
            have hb3 : Below w.heap.size w w3 := pushed hO3 hgrow3 hbel hsz
            clear hown3 hgrow3 hnil3 hO3 hsz
            have ck3 : w3.cell? ⟨b, o + j, none⟩ = some (.int .u8 (y : Int)) := (hb3.cell (p := ⟨b, o + j, none⟩) hlb).trans ck
            have hOl3 : (O ++ [k]).length ≤ 2 * j + 1 := by simp; omega
            have hO3 := ownsRow_below HR3.out.owns (alloc_bel w3 (.cells #[.int .u8 (y : Int)] 5))
            have hsz := hb3.size
            go_wp2_with (at_builtin; go_must (refine wpList_append_own _ rfl _ _ 32 rfl w.heap.size 5 i0 (.int .u8 0) 1 1 Try.underlying32 hi hz0 hz1 hz2 rfl (by decide) _ _ _ rfl hO3 ⟨w3.heap.size, 0, none⟩ 1 1 [.int .u8 (y : Int)] rfl rfl (cell_one_new _ _ _) (fun x hx => by simp at hx; subst hx; rfl) (by unfold maxLen; omega) (by omega) (by simp; omega) ?_))
            intro v4 w4 hown3 hgrow3 hnil3
            have HR4 : Hid (Row w4 w.heap.size v4 ((O ++ [k]) ++ [y])) := ⟨by rw [vsOf_push]; simp only [List.length_append, List.length_singleton]; exact hown3⟩
            have hb4 : Below w.heap.size w w4 := pushed hO3 hgrow3 hb3 hsz
            clear hown3 hgrow3 hnil3 hO3 hsz
            go_wp2
            go_roundg (n - (j + 1))
            case measure => omega
            case rel =>
              refine ⟨j + 1, O ++ [k] ++ [y], true, by omega, rfl, by go_num, rfl, HR4, ?_, by simp; omega, hb4⟩
              have h := HE2.out
              rw [ed_ins _ hne hky] at h
              show O ++ [k] ++ [y] ++ _ = _
              rw [List.append_assoc, List.append_assoc]; exact h
          · have e2 : decide ((k : Int) < (y : Int)) = false := by rw [decide_eq_false_iff_not]; omega
            have hO3 := ownsRow_below HO.out.owns (alloc_bel wr (.cells #[.int .u8 (y : Int)] 5))
            have hsz := hbel.size
            go_wp2_with (at_builtin; go_must (refine wpList_append_own _ rfl _ _ 32 rfl w.heap.size 5 i0 (.int .u8 0) 1 1 Try.underlying32 hi hz0 hz1 hz2 rfl (by decide) _ _ _ rfl hO3 ⟨wr.heap.size, 0, none⟩ 1 1 [.int .u8 (y : Int)] rfl rfl (cell_one_new _ _ _) (fun x hx => by simp at hx; subst hx; rfl) (by unfold maxLen; omega) (by omega) (by simp; omega) ?_))
            intro v3 w3 hown3 hgrow3 hnil3
            have HR3 : Hid (Row w3 w.heap.size v3 (O ++ [y])) := ⟨by rw [vsOf_push]; simp only [List.length_append, List.length_singleton]; exact hown3⟩
            have hb3 : Below w.heap.size w w3 := pushed hO3 hgrow3 hbel hsz
            clear hown3 hgrow3 hnil3 hO3 hsz
            go_wp2
            go_roundg (n - (j + 1))
            case measure => omega
            case rel =>
              refine ⟨j + 1, O ++ [y], false, by omega, rfl, by go_num, rfl, HR3, ?_, by simp; omega, hb3⟩
              have h := HE2.out
              rw [ed_skip _ hne (by omega)] at h
              show O ++ [y] ++ _ = _
              rw [List.append_assoc]; exact h
    · obtain rfl : j = n := by omega
      have hdr : L.drop j = [] := by rw [HN.out]; exact List.drop_length
      have HE2 : Hid (O ++ Pl.ed k [] pl = Pl.ed k L (!put)) := by rw [← hdr]; exact HE
      clear hdr
      cases pl with
      | true =>
        go_wp2
        go_ret
        have h : O = Pl.ed k L (!put) := by have h := HE2.out; rw [show Pl.ed k [] true = [] from rfl, List.append_nil] at h; exact h
        rw [← h]
        obtain ⟨a', cap, rfl, hs⟩ := sl_of_owns5 HO.out.owns
        exact ⟨a', cap, rfl, hs, hbel⟩
      | false =>
        have hO3 := ownsRow_below HO.out.owns (alloc_bel wr (.cells #[.int .u8 (k : Int)] 5))
        have hsz := hbel.size
        go_wp2_with (at_builtin; go_must (refine wpList_append_own _ rfl _ _ 32 rfl w.heap.size 5 i0 (.int .u8 0) 1 1 Try.underlying32 hi hz0 hz1 hz2 rfl (by decide) _ _ _ rfl hO3 ⟨wr.heap.size, 0, none⟩ 1 1 [.int .u8 (k : Int)] rfl rfl (cell_one_new _ _ _) (fun x hx => by simp at hx; subst hx; rfl) (by unfold maxLen; omega) (by omega) (by simp; omega) ?_))
        intro v3 w3 hown3 hgrow3 hnil3
        have HR3 : Hid (Row w3 w.heap.size v3 (O ++ [k])) := ⟨by rw [vsOf_push]; simp only [List.length_append, List.length_singleton]; exact hown3⟩
        have hb3 : Below w.heap.size w w3 := pushed hO3 hgrow3 hbel hsz
        clear hown3 hgrow3 hnil3 hO3 hsz
        go_wp2
        go_ret
        have h : O ++ [k] = Pl.ed k L (!put) := HE2.out
        rw [← h]
        obtain ⟨a', cap, rfl, hs⟩ := sl_of_owns5 HR3.out.owns
        exact ⟨a', cap, rfl, hs, hb3⟩
end Go.Proofs.Qxb6617836a
