import Derived.Test.Qxb6617836aRow
namespace Go.Proofs.Qxb6617836a
open Go.RowKit

/-- The keymap's cell. -/
def kmB (first width : Nat) (a : Option Addr) (n : Nat) (mo : Option Nat) : Obj := .cells #[.int .u8 (first : Int), .int .i64 (width : Int), .slice a n n, .map mo, .slice none 0 0] 54

theorem ownsRow_below {w w' : World} {base : Nat} {e : TypeId} {size : Nat} {v : Value} {n : Nat} {xs : List Value} (h : w.ownsRow base e size v n xs) (hb : Below w.heap.size w w') : w'.ownsRow base e size v n xs := by
  refine ⟨h.1, ?_⟩
  rcases h.2 with h2 | ⟨g, cap, cur, h1, h2, h3, h4⟩
  · exact .inl h2
  · have hg : g < w.heap.size := (h.lt g (by rw [h1]; rfl)).2
    exact .inr ⟨g, cap, cur, h1, h2, by rw [hb.block g hg]; exact h3, h4⟩

/-- A list of bytes as values. -/
def vsOf (L : List Nat) : List Value := L.map fun x : Nat => .int .u8 (x : Int)

theorem runP_step (P : Nat → Bool) (a k : Nat) : Pl.runP P a (k + 1) = Pl.runP P a k ++ (if P (a + k) then [a + k] else []) := by
  unfold Pl.runP
  rw [List.range'_concat, List.filter_append, Nat.one_mul]
  cases h : P (a + k) <;> simp [h]

set_option maxRecDepth 100000 in
set_option maxHeartbeats 4000000 in
theorem spare_any (first width n c : Nat) (a0 : Option Addr) (fs : Nat → Int) (mo : Option Nat) (mk : Int → Option Bool) (w : World)
    (ha : Sl .u32 w a0 n fs) (hm : MapAt w (.map mo) mk) (hn : n ≤ 65536) (hw : 1 ≤ width) (hc : c = n / width) (hf : first + c ≤ 256) :
    Calls Try.prog 20 #[kmV first width a0 n mo] w fun e w' =>
      ∃ v, e = .returned v ∧ w'.ownsRow (w.heap.size + 1) 50 1 v (Pl.spareL first width c fs (fun x => (mk x).getD false)).length (vsOf (Pl.spareL first width c fs (fun x => (mk x).getD false))) ∧ Below w.heap.size w w' := by
  have hdiv : ((n : Int).tdiv (width : Int)) = (c : Int) := by rw [hc]; rfl
  have HA : Hid (Sl .u32 (w.alloc (kmB first width a0 n mo)) a0 n fs) := ha.below (alloc_bel _ _)
  have HM : Hid (MapAt (w.alloc (kmB first width a0 n mo)) (.map mo) mk) := hm.below (alloc_bel _ _)
  have HC : Hid (c = n / width) := hc
  clear ha hm hc
  go_enter Try.func20, Try.ntmps20
  go_wp2
  go_loopg [3, 15] c (fun g sp i wr => ∃ k : Nat, k ≤ c ∧ g = c - k ∧ i = .int .i64 k ∧ Hid (wr.ownsRow (w.heap.size + 1) 50 1 sp (Pl.runP (fun x => !((mk x).getD false) && Pl.emptyRow fs width (x - first) width) first k).length (vsOf (Pl.runP (fun x => !((mk x).getD false) && Pl.emptyRow fs width (x - first) width) first k))) ∧ Below (w.heap.size + 1) (w.alloc (kmB first width a0 n mo)) wr)
  case atStart => exact ⟨0, by omega, rfl, rfl, World.ownsRow_nil _ _ _ _, Below.refl _ _⟩
  case round =>
    obtain ⟨k, hk, rfl, rfl, HO, hbel⟩ := hrel
    by_cases hlt : k < c
    · have hdn : decide ((k : Int) < (c : Int)) = true := by rw [decide_eq_true_eq]; omega
      have hcl : ∀ j, wr.cell? ⟨w.heap.size, j, none⟩ = (w.alloc (kmB first width a0 n mo)).cell? ⟨w.heap.size, j, none⟩ := fun j => hbel.cell (p := ⟨w.heap.size, j, none⟩) (Nat.lt_succ_self _)
      have g0 := (hcl 0).trans (by rw [kmB, World.cell?_alloc_at _ _ _ _ rfl])
      have g1 := (hcl 1).trans (by rw [kmB, World.cell?_alloc_at _ _ _ _ rfl])
      have g2 := (hcl 2).trans (by rw [kmB, World.cell?_alloc_at _ _ _ _ rfl])
      have g3 := (hcl 3).trans (by rw [kmB, World.cell?_alloc_at _ _ _ _ rfl])
      have g4 := (hcl 4).trans (by rw [kmB, World.cell?_alloc_at _ _ _ _ rfl])
      clear hcl
      obtain ⟨x, hx⟩ : ∃ x : Int, (first : Int) + (k : Int) = x := ⟨_, rfl⟩
      have hx0 : 0 ≤ x := by omega
      have hx1 : x < 256 := by omega
      have HX : Hid ((first : Int) + (k : Int) = x) := hx
      have hbel0 : Below (w.alloc (kmB first width a0 n mo)).heap.size (w.alloc (kmB first width a0 n mo)) wr := by rw [World.size_alloc]; exact hbel
      have hlk := (HM.out.below hbel0).look 52 50 4 und52 und50 zero4 x
      have HA1 : Hid (Sl .u32 wr a0 n fs) := HA.out.below hbel0
      cases hmk : (mk x).getD false with
      | true =>
        rw [hmk] at hlk
        go_wp2
        go_roundg (c - (k + 1))
        case measure => omega
        case rel =>
          refine ⟨k + 1, by omega, rfl, by go_num, ?_, hbel⟩
          have e : (((first + k : Nat) : Int)) = x := by rw [← HX.out]; simp
          rw [runP_step, e, hmk, Bool.not_true, Bool.false_and, if_neg (by decide), List.append_nil]
          exact HO
      | false =>
        rw [hmk] at hlk
        have hpn : k * width + width ≤ n := by
          have h1 : (k + 1) * width ≤ c * width := Nat.mul_le_mul_right _ hlt
          have h2 : c * width ≤ n := by rw [HC.out]; exact Nat.div_mul_le_self n width
          rw [Nat.add_mul, Nat.one_mul] at h1
          omega
        have hwn : width ≤ 65536 := by omega
        go_wp2_with fail
        refine (row_any first width k n (k * width) (k * width + width) a0 fs mo wr HA1.out hn hw (by omega) rfl rfl hpn x hx).mono ?_
        rintro e w2 ⟨a2, c2, rfl, HR, hb2⟩
        have HR : Hid _ := HR
        have hO2 : Hid (w2.ownsRow (w.heap.size + 1) 50 1 u3 (Pl.runP (fun x => !((mk x).getD false) && Pl.emptyRow fs width (x - first) width) first k).length (vsOf (Pl.runP (fun x => !((mk x).getD false) && Pl.emptyRow fs width (x - first) width) first k))) := ownsRow_below HO.out hb2
        have hbel2 : Below (w.heap.size + 1) (w.alloc (kmB first width a0 n mo)) w2 := hbel.trans (hb2.mono (by have := hbel.size; rw [World.size_alloc] at this; exact this))
        clear hpn HO HA1 hbel0 hlk g0 g1 g2 g3 g4
        go_wp2
        go_loopg [6, 31] width (fun g s i wq => ∃ t : Nat, t ≤ width ∧ g = width - t ∧ i = .int .i64 t ∧ s = .bool (Pl.emptyRow fs width k t) ∧ wq = w2)
        case atStart => exact ⟨0, by omega, rfl, rfl, rfl, rfl⟩
        case round =>
          obtain ⟨t, ht, rfl, rfl, rfl, rfl⟩ := hrel
          by_cases htl : t < width
          · have htn : decide ((t : Int) < (width : Int)) = true := by rw [decide_eq_true_eq]; omega
            obtain ⟨b, o, rfl, hlb, hcc⟩ := HR.out (by omega)
            have ck := hcc t htl
            clear hcc
            cases he : Pl.emptyRow fs width k t with
            | false =>
              go_wp2
              go_roundg (width - (t + 1))
              case measure => omega
              case rel => exact ⟨t + 1, by omega, rfl, by go_num, by unfold Pl.emptyRow; rw [he, Bool.false_and], rfl⟩
            | true =>
              go_wp2
              go_roundg (width - (t + 1))
              case measure => omega
              case rel => exact ⟨t + 1, by omega, rfl, by go_num, by unfold Pl.emptyRow; rw [he, Bool.true_and], rfl⟩
          · obtain rfl : t = width := by omega
            cases he : Pl.emptyRow fs t k t with
            | false =>
              go_wp2
              go_roundg (c - (k + 1))
              case measure => omega
              case rel =>
                refine ⟨k + 1, by omega, rfl, by go_num, ?_, hbel2⟩
                rw [runP_step, show first + k - first = k from by omega, he, Bool.and_false, if_neg (by decide), List.append_nil]
                exact hO2
            | true =>
              obtain ⟨i0, hi, hz0, hz1, hz2⟩ := info_parts info50
              obtain ⟨L, hL⟩ : ∃ L, L = Pl.runP (fun x => !((mk x).getD false) && Pl.emptyRow fs t (x - first) t) first k := ⟨_, rfl⟩
              have hLl : L.length ≤ k := by
                rw [hL]; unfold Pl.runP
                exact Nat.le_trans (List.length_filter_le ..) (by rw [List.length_range']; exact Nat.le_refl _)
              rw [← hL] at hO2
              have HL : Hid (L = Pl.runP (fun x => !((mk x).getD false) && Pl.emptyRow fs t (x - first) t) first k) := hL
              clear hL
              have hO3 := ownsRow_below hO2.out (alloc_bel wr (.cells #[.int .u8 x] 50))
              have hsz := hbel2.size
              rw [World.size_alloc] at hsz
              go_wp2_with (at_builtin; go_must (refine wpList_append_own _ rfl _ _ 49 rfl (w.heap.size + 1) 50 i0 (.int .u8 0) 1 1 Try.underlying49 hi hz0 hz1 hz2 rfl (by decide) _ _ _ rfl hO3 ⟨wr.heap.size, 0, none⟩ 1 1 [.int .u8 x] rfl rfl (cell_one_new _ _ _) (fun x hx => by simp at hx; subst hx; rfl) (by unfold maxLen; omega) (by omega) (by simp; omega) ?_))
              intro v' w3 hown3 hgrow3 hnil3
              have hrow : ∀ j, u3.ownBlock = some j → w.heap.size + 1 ≤ j := fun j hj => (hO3.lt j hj).1
              have HB3 : Hid (Below (w.heap.size + 1) (w.alloc (kmB first t a0 n mo)) w3) := (hbel2.trans ((alloc_bel wr (.cells #[.int .u8 x] 50)).mono hsz)).trans
                ⟨hgrow3.os, hgrow3.tape, hgrow3.output, hgrow3.size, fun j hj => hgrow3.block j (by rw [World.size_alloc]; omega) (fun e => by have := hrow j e.symm; omega)⟩
              clear hrow hgrow3 hnil3
              have hO4 : Hid (w3.ownsRow (w.heap.size + 1) 50 1 v' (L.length + 1) (vsOf L ++ [.int .u8 x])) := hown3
              clear hown3 hO3
              go_wp2
              go_roundg (c - (k + 1))
              case measure => omega
              case rel =>
                refine ⟨k + 1, by omega, rfl, by go_num, ?_, HB3⟩
                have e : (((first + k : Nat) : Int)) = x := by rw [← HX.out]; simp
                rw [runP_step, show first + k - first = k from by omega, he, e, hmk, Bool.not_false, Bool.true_and, if_pos rfl, ← HL.out]
                have e2 : vsOf (L ++ [first + k]) = vsOf L ++ [.int .u8 x] := by unfold vsOf; rw [List.map_append, ← e]; rfl
                rw [e2, List.length_append]
                exact hO4
    · obtain rfl : k = c := by omega
      go_wp2
      go_ret
      exact ⟨_, rfl, HO.out, (alloc_bel _ _).trans (hbel.mono (by omega))⟩
end Go.Proofs.Qxb6617836a
