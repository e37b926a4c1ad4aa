/-
  heap.down, walked.
-/
import Derived.Test.Qxb6616981aUp
namespace Go.Proofs.Qxb6616981a
open Go.RowKit

set_option maxRecDepth 100000
set_option maxHeartbeats 4000000

variable {w0 w : World} {S : St} {l : Bool} {f : Nat → Nat} {m : Nat} {sz : Nat → Int}

def DR (w w2 : World) : Prop := ∃ nq, w2 = w.drewN nq
theorem DR.refl (w : World) : DR w w := ⟨0, rfl⟩
theorem Rep.dr {w2 : World} (h : Rep w0 w S) (hd : DR w w2) : Rep w0 w2 S := by obtain ⟨nq, rfl⟩ := hd; exact h.drewN nq
theorem drewN_add (w : World) (a b : Nat) : (w.drewN a).drewN b = w.drewN (a + b) := by simp [World.drewN]; try omega
theorem DR.trans {w w2 w3 : World} (h : DR w w2) (h' : DR w2 w3) : DR w w3 := by
  obtain ⟨a, rfl⟩ := h
  obtain ⟨b, rfl⟩ := h'
  exact ⟨_, drewN_add _ _ _⟩

theorem down_end_any {n i0 i : Nat} {tt : Bool} (ht : decide (i0 < i) = tt) (h : Hp.DnI sz f n i0 i) (hb : ∀ c, 0 < c → c < n → (c - 1) / 2 = i → ¬ Hp.lt sz (f c) (f i)) : if tt then Hp.Heap sz f n else Hp.UpI sz f n i0 := by
  by_cases e : i0 < i
  · rw [decide_eq_true e] at ht; subst ht; simp; exact Hp.down_end_moved h e hb
  · rw [decide_eq_false e] at ht; subst ht; simp
    have : i = i0 := by have := h.ge; omega
    subst this
    exact Hp.down_end_still h hb

theorem down_rep {Q : Nat → Prop} (n i0 : Nat) (h : Rep w0 w S) (H : HeapAt S l f m) (hs : SzAt S sz) (hQ : Hp.Mem f m Q) (hn : n ≤ m) (hj : i0 < n) (hm : m < 1000000) (hU : Hp.DnI sz f n i0 i0) :
    Calls Try.prog 36 #[.iface 69 (pt S.I (L l + 5)), .int .i64 i0, .int .i64 n] w fun e w' => ∃ t S' f', e = .returned (.bool t) ∧ Hid (Rep w0 w' S') ∧ Hid (HeapAt S' l f' m) ∧ Hid (HFrame Q l S S') ∧ Hid (Hp.Mem f' m Q) ∧ Hid (if t then Hp.Heap sz f' n else Hp.UpI sz f' n i0) ∧ Hid (∀ k, n ≤ k → f' k = f k) := by
  have HR : Hid (Rep w0 w S) := h
  have HH : Hid (HeapAt S l f m) := H
  have HS : Hid (SzAt S sz) := hs
  have HQ : Hid (Hp.Mem f m Q) := hQ
  have HU : Hid (Hp.DnI sz f n i0 i0) := hU
  clear h H hs hQ hU
  go_enter Try.func36, Try.ntmps36
  go_wp2
  go_loopg [7] (n - i0) (fun g s7 wr => ∃ S' f' i, s7 = .int .i64 (i : Nat) ∧ i < n ∧ g = n - i ∧ Hid (Rep w0 wr S') ∧ Hid (HeapAt S' l f' m) ∧ Hid (HFrame Q l S S') ∧ Hid (Hp.Mem f' m Q) ∧ Hid (Hp.DnI sz f' n i0 i) ∧ Hid (∀ k, n ≤ k → f' k = f k))
  case atStart => exact ⟨S, f, i0, rfl, hj, rfl, HR, HH, HFrame.refl _ _ _, HQ, HU, fun _ _ => rfl⟩
  case round =>
    obtain ⟨S', f', gk, rfl, hg, rfl, HR', HH', HF', HM', HU', HK'⟩ := hrel
    have hI : S'.I = S.I := by rw [HF'.out.same]
    have HL : Hid (∀ w2, DR wr w2 → ∀ a b : Nat, a < m → b < m → ∀ x y : Int, x = a → y = b → Calls Try.prog 55 #[.slice (some ⟨S'.G l, 0, none⟩) m (S'.cap l), .int .i64 x, .int .i64 y] w2 fun e w' => e = .returned (.bool (lb sz (f' a) (f' b))) ∧ Hid (DR wr w')) := by
      rintro w2 hd a b ha hb x y rfl rfl
      refine (less_rep (HR'.out.dr hd) HH'.out (HF'.out.sz HS.out) ha hb).mono ?_
      rintro e w' ⟨h1, h2⟩
      exact ⟨h1, hd.trans h2⟩
    have HSw : Hid (∀ w2, DR wr w2 → ∀ a b : Nat, a < m → b < m → ¬ a = b → ∀ x y : Int, x = a → y = b → Calls Try.prog 56 #[.slice (some ⟨S'.G l, 0, none⟩) m (S'.cap l), .int .i64 x, .int .i64 y] w2 fun e w' => e = .returned (.tuple #[]) ∧ ∃ S'', Hid (Rep w0 w' S'') ∧ Hid (HeapAt S'' l (Hp.sw f' a b) m) ∧ Hid (HFrame Q l S' S'')) := by
      rintro w2 hd a b ha hb hab x y rfl rfl
      exact swap_rep (HR'.out.dr hd) HH'.out HM'.out.mem ha hb hab
    have hmL : Hid (∀ w2, DR wr w2 → (method 205 69 (pt S.I (L l + 5)) "Less").run Try.prog w2 = .ok (55, .slice (some ⟨S'.G l, 0, none⟩) m (S'.cap l)) w2) := fun w2 hd => meth_run mLess S.I (L l + 5) _ _ (by have := hdr_at (HR'.out.dr hd) HH'.out; rw [hI] at this; exact this)
    have hmS : Hid (∀ w2, DR wr w2 → (method 205 69 (pt S.I (L l + 5)) "Swap").run Try.prog w2 = .ok (56, .slice (some ⟨S'.G l, 0, none⟩) m (S'.cap l)) w2) := fun w2 hd => meth_run mSwap S.I (L l + 5) _ _ (by have := hdr_at (HR'.out.dr hd) HH'.out; rw [hI] at this; exact this)
    have HI : Hid (S'.I = S.I) := hI
    clear hI
    by_cases h1 : 2 * gk + 1 < n
    · by_cases h2 : 2 * gk + 2 < n
      · -- both children
        have d2 : decide (2 * (gk : Int) + 1 + 1 < (n : Int)) = true := by rw [decide_eq_true_eq]; omega
        have d1 : decide ((n : Int) ≤ 2 * (gk : Int) + 1) = false := by rw [decide_eq_false_iff_not]; omega
        have d0 : decide (2 * (gk : Int) + 1 < 0) = false := by rw [decide_eq_false_iff_not]; omega
        have HC1 : Hid (∀ x y : Int, x = (2 * gk + 2 : Nat) → y = (2 * gk + 1 : Nat) → Calls Try.prog 55 #[.slice (some ⟨S'.G l, 0, none⟩) m (S'.cap l), .int .i64 x, .int .i64 y] wr fun e w' => e = .returned (.bool (lb sz (f' (2 * gk + 2)) (f' (2 * gk + 1)))) ∧ Hid (DR wr w')) := HL.out wr (DR.refl _) (2 * gk + 2) (2 * gk + 1) (by omega) (by omega)
        obtain ⟨lv, hlv⟩ : ∃ lv, lb sz (f' (2 * gk + 2)) (f' (2 * gk + 1)) = lv := ⟨_, rfl⟩
        rw [hlv] at HC1
        have HLV : Hid (lb sz (f' (2 * gk + 2)) (f' (2 * gk + 1)) = lv) := hlv
        clear hlv
        have hm0 := hmL.out wr (DR.refl _)
        cases lv with
        | true =>
          obtain ⟨lv2, hlv2⟩ : ∃ lv2, lb sz (f' (2 * gk + 2)) (f' gk) = lv2 := ⟨_, rfl⟩
          have HLV2 : Hid (lb sz (f' (2 * gk + 2)) (f' gk) = lv2) := hlv2
          have HC2 : Hid (∀ w2, DR wr w2 → ∀ x y : Int, x = (2 * gk + 2 : Nat) → y = (gk : Nat) → Calls Try.prog 55 #[.slice (some ⟨S'.G l, 0, none⟩) m (S'.cap l), .int .i64 x, .int .i64 y] w2 fun e w' => e = .returned (.bool lv2) ∧ Hid (DR wr w')) := by
            intro w2 hd; rw [← hlv2]; exact HL.out w2 hd (2 * gk + 2) gk (by omega) (by omega)
          clear hlv2 HL
          have HB : Hid (∀ c, 0 < c → c < n → (c - 1) / 2 = gk → ¬ Hp.lt sz (f' c) (f' (2 * gk + 2))) := by
            intro c c0 cn ce
            rcases (show c = 2 * gk + 1 ∨ c = 2 * gk + 2 by omega) with rfl | rfl
            · exact Hp.lt_asymm (lb_iff.1 HLV.out)
            · exact Hp.lt_irrefl _
          cases lv2 with
          | false =>
            go_wp2_with fail
            refine (HC1.out _ _ (by omega) (by omega)).mono ?_
            rintro e w1 ⟨rfl, HD1⟩
            have hm1 := hmL.out w1 HD1
            go_wp2_with fail
            refine (HC2.out _ HD1 _ _ (by omega) (by omega)).mono ?_
            rintro e w2 ⟨rfl, HD2⟩
            go_wp2
            go_ret
            exact ⟨decide (i0 < gk), S', f', rfl, HR'.out.dr HD2, HH', HF', HM', down_end_any rfl HU'.out (fun c c0 cn ce => Hp.nlt_trans (HB.out c c0 cn ce) (lb_not.1 HLV2.out)), HK'⟩
          | true =>
            go_wp2_with fail
            refine (HC1.out _ _ (by omega) (by omega)).mono ?_
            rintro e w1 ⟨rfl, HD1⟩
            have hm1 := hmL.out w1 HD1
            go_wp2_with fail
            refine (HC2.out _ HD1 _ _ (by omega) (by omega)).mono ?_
            rintro e w2 ⟨rfl, HD2⟩
            have hm2 := hmS.out w2 HD2
            go_wp2_with fail
            refine (HSw.out _ HD2 gk (2 * gk + 2) (by omega) (by omega) (by omega) _ _ (by omega) (by omega)).mono ?_
            rintro e w3 ⟨rfl, S'', HR2, HH2, HF2⟩
            go_wp2
            go_roundg (n - (2 * gk + 2))
            case measure => omega
            case rel => exact ⟨S'', Hp.sw f' gk (2 * gk + 2), 2 * gk + 2, by go_num, by omega, rfl, HR2, HH2, HF'.out.trans HF2.out, HM'.out.sw (by omega) (by omega), Hp.down_step HU'.out (by omega) (by omega) HB.out (lb_iff.1 HLV2.out), fun k hk => by rw [Hp.sw_k _ (by omega) (by omega)]; exact HK'.out k hk⟩
        | false =>
          obtain ⟨lv2, hlv2⟩ : ∃ lv2, lb sz (f' (2 * gk + 1)) (f' gk) = lv2 := ⟨_, rfl⟩
          have HLV2 : Hid (lb sz (f' (2 * gk + 1)) (f' gk) = lv2) := hlv2
          have HC2 : Hid (∀ w2, DR wr w2 → ∀ x y : Int, x = (2 * gk + 1 : Nat) → y = (gk : Nat) → Calls Try.prog 55 #[.slice (some ⟨S'.G l, 0, none⟩) m (S'.cap l), .int .i64 x, .int .i64 y] w2 fun e w' => e = .returned (.bool lv2) ∧ Hid (DR wr w')) := by
            intro w2 hd; rw [← hlv2]; exact HL.out w2 hd (2 * gk + 1) gk (by omega) (by omega)
          clear hlv2 HL
          have HB : Hid (∀ c, 0 < c → c < n → (c - 1) / 2 = gk → ¬ Hp.lt sz (f' c) (f' (2 * gk + 1))) := by
            intro c c0 cn ce
            rcases (show c = 2 * gk + 1 ∨ c = 2 * gk + 2 by omega) with rfl | rfl
            · exact Hp.lt_irrefl _
            · exact lb_not.1 HLV.out
          cases lv2 with
          | false =>
            go_wp2_with fail
            refine (HC1.out _ _ (by omega) (by omega)).mono ?_
            rintro e w1 ⟨rfl, HD1⟩
            have hm1 := hmL.out w1 HD1
            go_wp2_with fail
            refine (HC2.out _ HD1 _ _ (by omega) (by omega)).mono ?_
            rintro e w2 ⟨rfl, HD2⟩
            go_wp2
            go_ret
            exact ⟨decide (i0 < gk), S', f', rfl, HR'.out.dr HD2, HH', HF', HM', down_end_any rfl HU'.out (fun c c0 cn ce => Hp.nlt_trans (HB.out c c0 cn ce) (lb_not.1 HLV2.out)), HK'⟩
          | true =>
            go_wp2_with fail
            refine (HC1.out _ _ (by omega) (by omega)).mono ?_
            rintro e w1 ⟨rfl, HD1⟩
            have hm1 := hmL.out w1 HD1
            go_wp2_with fail
            refine (HC2.out _ HD1 _ _ (by omega) (by omega)).mono ?_
            rintro e w2 ⟨rfl, HD2⟩
            have hm2 := hmS.out w2 HD2
            go_wp2_with fail
            refine (HSw.out _ HD2 gk (2 * gk + 1) (by omega) (by omega) (by omega) _ _ (by omega) (by omega)).mono ?_
            rintro e w3 ⟨rfl, S'', HR2, HH2, HF2⟩
            go_wp2
            go_roundg (n - (2 * gk + 1))
            case measure => omega
            case rel => exact ⟨S'', Hp.sw f' gk (2 * gk + 1), 2 * gk + 1, by go_num, by omega, rfl, HR2, HH2, HF'.out.trans HF2.out, HM'.out.sw (by omega) (by omega), Hp.down_step HU'.out (by omega) (by omega) HB.out (lb_iff.1 HLV2.out), fun k hk => by rw [Hp.sw_k _ (by omega) (by omega)]; exact HK'.out k hk⟩
      · have d2 : decide (2 * (gk : Int) + 1 + 1 < (n : Int)) = false := by rw [decide_eq_false_iff_not]; omega
        have d1 : decide ((n : Int) ≤ 2 * (gk : Int) + 1) = false := by rw [decide_eq_false_iff_not]; omega
        have d0 : decide (2 * (gk : Int) + 1 < 0) = false := by rw [decide_eq_false_iff_not]; omega
        obtain ⟨lv2, hlv2⟩ : ∃ lv2, lb sz (f' (2 * gk + 1)) (f' gk) = lv2 := ⟨_, rfl⟩
        have HLV2 : Hid (lb sz (f' (2 * gk + 1)) (f' gk) = lv2) := hlv2
        have HC2 : Hid (∀ w2, DR wr w2 → ∀ x y : Int, x = (2 * gk + 1 : Nat) → y = (gk : Nat) → Calls Try.prog 55 #[.slice (some ⟨S'.G l, 0, none⟩) m (S'.cap l), .int .i64 x, .int .i64 y] w2 fun e w' => e = .returned (.bool lv2) ∧ Hid (DR wr w')) := by
          intro w2 hd; rw [← hlv2]; exact HL.out w2 hd (2 * gk + 1) gk (by omega) (by omega)
        clear hlv2 HL
        have HB : Hid (∀ c, 0 < c → c < n → (c - 1) / 2 = gk → ¬ Hp.lt sz (f' c) (f' (2 * gk + 1))) := by
          intro c c0 cn ce
          have : c = 2 * gk + 1 := by omega
          subst this
          exact Hp.lt_irrefl _
        cases lv2 with
        | false =>
          have HD1 : Hid (DR wr wr) := DR.refl _
          have hm1 := hmL.out wr HD1
          go_wp2_with fail
          refine (HC2.out _ HD1 _ _ (by omega) (by omega)).mono ?_
          rintro e w2 ⟨rfl, HD2⟩
          go_wp2
          go_ret
          exact ⟨decide (i0 < gk), S', f', rfl, HR'.out.dr HD2, HH', HF', HM', down_end_any rfl HU'.out (fun c c0 cn ce => Hp.nlt_trans (HB.out c c0 cn ce) (lb_not.1 HLV2.out)), HK'⟩
        | true =>
          have HD1 : Hid (DR wr wr) := DR.refl _
          have hm1 := hmL.out wr HD1
          go_wp2_with fail
          refine (HC2.out _ HD1 _ _ (by omega) (by omega)).mono ?_
          rintro e w2 ⟨rfl, HD2⟩
          have hm2 := hmS.out w2 HD2
          go_wp2_with fail
          refine (HSw.out _ HD2 gk (2 * gk + 1) (by omega) (by omega) (by omega) _ _ (by omega) (by omega)).mono ?_
          rintro e w3 ⟨rfl, S'', HR2, HH2, HF2⟩
          go_wp2
          go_roundg (n - (2 * gk + 1))
          case measure => omega
          case rel => exact ⟨S'', Hp.sw f' gk (2 * gk + 1), 2 * gk + 1, by go_num, by omega, rfl, HR2, HH2, HF'.out.trans HF2.out, HM'.out.sw (by omega) (by omega), Hp.down_step HU'.out (by omega) (by omega) HB.out (lb_iff.1 HLV2.out), fun k hk => by rw [Hp.sw_k _ (by omega) (by omega)]; exact HK'.out k hk⟩
    · have d1 : decide ((n : Int) ≤ 2 * (gk : Int) + 1) = true := by rw [decide_eq_true_eq]; omega
      clear HL HSw hmL hmS
      go_wp2
      go_ret
      exact ⟨decide (i0 < gk), S', f', rfl, HR', HH', HF', HM', down_end_any rfl HU'.out (fun c c0 cn ce => by omega), HK'⟩
end Go.Proofs.Qxb6616981a
