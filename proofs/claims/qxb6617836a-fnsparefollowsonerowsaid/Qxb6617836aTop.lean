import Derived.Test.Qxb6617836aEdit
namespace Go.Proofs.Qxb6617836a
open Go.RowKit

/-- The keysyms with one row zeroed; with one keysym put into it. -/
def clr (fs : Nat → Int) (p t : Nat) (j : Nat) : Int := if p ≤ j ∧ j < p + t then 0 else fs j
def tak (fs : Nat → Int) (p width q : Nat) (sym : Int) (j : Nat) : Int := if j = q then sym else clr fs p width j

theorem clr_other (fs : Nat → Int) (width r i j : Nat) (hi : i ≠ r) (hj : j < width) : clr fs (r * width) width (i * width + j) = fs (i * width + j) := by
  unfold clr
  refine if_neg fun h => hi ?_
  exact Pl.row_apart width i r j (i * width + j - r * width) hj (by omega) (by omega)

theorem law1 (first width c k : Nat) (fs : Nat → Int) (m : Nat → Bool) (h1 : first ≤ k) (h2 : k < first + c) :
    Pl.ed k (Pl.spareL first width c fs m) (m k) = Pl.spareL first width c (clr fs ((k - first) * width) width) m :=
  Pl.law_cleared first width c k fs _ m h1 h2 (fun j hj => if_pos ⟨by omega, by omega⟩) (fun i j hi hj => clr_other fs width (k - first) i j hi hj)

theorem law2 (first width c k off : Nat) (sym : Int) (fs : Nat → Int) (m : Nat → Bool) (h1 : first ≤ k) (ho : off < width) (hs : sym ≠ 0) :
    Pl.ed k (Pl.spareL first width c fs m) true = Pl.spareL first width c (tak fs ((k - first) * width) width ((k - first) * width + off) sym) m := by
  refine Pl.law_taken first width c k fs _ m off ho (by unfold tak; rw [if_pos rfl]; exact hs) (fun i j hi hj => ?_) h1
  unfold tak
  rw [if_neg (fun h => hi (Pl.row_apart width i (k - first) j off hj ho h))]
  exact clr_other fs width (k - first) i j hi hj

theorem Bw.clr_step {wr : World} {N n p t : Nat} {fs : Nat → Int} (h : Bw .u32 wr N n n (clr fs p t)) (hp : p + t < n) : Bw .u32 (wr.setCell ⟨N, p + t, none⟩ (.int .u32 0)) N n n (clr fs p (t + 1)) := by
  refine (h.set (p + t) hp 0).congr (fun j _ => ?_)
  unfold clr
  by_cases e : j = p + t
  · rw [if_pos e, if_pos (by omega)]
  · rw [if_neg e]
    by_cases e2 : p ≤ j ∧ j < p + t
    · rw [if_pos e2, if_pos (by omega)]
    · rw [if_neg e2, if_neg (by omega)]

theorem spare_small (first width c : Nat) (fs : Nat → Int) (m : Nat → Bool) (hf : first + c ≤ 256) (i : Nat) : bOf (Pl.spareL first width c fs m) i < 256 := by
  unfold bOf
  rw [List.getD_eq_getElem?_getD]
  cases h : (Pl.spareL first width c fs m)[i]? with
  | none => show ((0 : Nat) : Int) < 256; omega
  | some x =>
    have hx := Pl.mem_runP (List.mem_of_getElem? h)
    show ((x : Nat) : Int) < 256
    omega
theorem spare_short (first width c : Nat) (fs : Nat → Int) (m : Nat → Bool) (hf : first + c ≤ 256) : (Pl.spareL first width c fs m).length ≤ 256 := by
  unfold Pl.spareL Pl.runP
  exact Nat.le_trans (List.length_filter_le ..) (by rw [List.length_range']; omega)

set_option maxRecDepth 100000 in
set_option maxHeartbeats 8000000 in
theorem top_any (first width k off n c c0 r p : Nat) (sym : Int) (a0 : Option Addr) (fs : Nat → Int) (mo : Option Nat) (mk : Int → Option Bool) (w : World)
    (ha : Sl .u32 w a0 n fs) (hm : MapAt w (.map mo) mk) (hnil : a0.isSome = false → n = 0) (hn : n ≤ 65536) (hw : 1 ≤ width) (hc : c = n / width) (hf : first + c ≤ 256)
    (hk1 : first ≤ k) (hk2 : k < first + c) (ho : off < width) (hs : sym ≠ 0) (hr : r = k - first) (hp : p = r * width) :
    Calls Try.prog 4 #[.int .u8 (first : Int), .int .i64 (width : Int), .slice a0 n c0, .map mo, .int .u8 (k : Int), .int .i64 (off : Int), .int .u32 sym] w fun e w' => e = .returned (.bool true) ∧ Below w.heap.size w w' := by
  have hpn : p + width ≤ n := by
    have h1 : (r + 1) * width ≤ c * width := Nat.mul_le_mul_right _ (by omega)
    have h2 : c * width ≤ n := by rw [hc]; exact Nat.div_mul_le_self n width
    rw [Nat.add_mul, Nat.one_mul] at h1
    omega
  have hdiv : ((n : Int).tdiv (width : Int)) = (c : Int) := by rw [hc]; rfl
  have t1 : decide ((65536 : Int) < (n : Int)) = false := by rw [decide_eq_false_iff_not]; omega
  have t2 : decide ((width : Int) < 1) = false := by rw [decide_eq_false_iff_not]; omega
  have t3 : decide ((256 : Int) < (first : Int) + (c : Int)) = false := by rw [decide_eq_false_iff_not]; omega
  have t4 : decide ((k : Int) < (first : Int)) = false := by rw [decide_eq_false_iff_not]; omega
  have t5 : decide ((first : Int) + (c : Int) ≤ (k : Int)) = false := by rw [decide_eq_false_iff_not]; omega
  have t6 : decide ((off : Int) < 0) = false := by rw [decide_eq_false_iff_not]; omega
  have t7 : decide ((width : Int) ≤ (off : Int)) = false := by rw [decide_eq_false_iff_not]; omega
  have t8 : (sym == 0) = false := by rw [beq_eq_false_iff_ne]; exact hs
  have hsub : (k : Int) - (first : Int) = (r : Int) := by omega
  have hmul : (r : Int) * (width : Int) = (p : Int) := by rw [hp]; simp
  have hk3 : k < 256 := by omega
  have hmk0 := make_run 22 24 .u32 4 Try.underlying22 info24 (by decide) n n (Nat.le_refl _) (by omega)
  have HA : Hid (Sl .u32 w a0 n fs) := ha
  have HM : Hid (MapAt w (.map mo) mk) := hm
  have HC : Hid (c = n / width) := hc
  have HNil : Hid (a0.isSome = false → n = 0) := hnil
  have HP : Hid (p = (k - first) * width) := by rw [hp, hr]; exact rfl
  have HF : Hid (first + c ≤ 256) := hf
  obtain ⟨L1, hL1⟩ : ∃ L, L = Pl.spareL first width c fs (fun x => (mk x).getD false) := ⟨_, rfl⟩
  obtain ⟨L2, hL2⟩ : ∃ L, L = Pl.spareL first width c (clr fs p width) (fun x => (mk x).getD false) := ⟨_, rfl⟩
  obtain ⟨L3, hL3⟩ : ∃ L, L = Pl.spareL first width c (tak fs p width (p + off) sym) (fun x => (mk x).getD false) := ⟨_, rfl⟩
  have E1 : Hid (Pl.ed k L1 ((mk k).getD false) = L2) := by
    have h := law1 first width c k fs (fun x => (mk x).getD false) hk1 hk2
    rw [← HP.out, ← hL1, ← hL2] at h; exact h
  have E2 : Hid (Pl.ed k L1 true = L3) := by
    have h := law2 first width c k off sym fs (fun x => (mk x).getD false) hk1 ho hs
    rw [← HP.out, ← hL1, ← hL3] at h; exact h
  have HL1 : Hid (L1 = Pl.spareL first width c fs (fun x => (mk x).getD false)) := hL1
  have HL2 : Hid (L2 = Pl.spareL first width c (clr fs p width) (fun x => (mk x).getD false)) := hL2
  have HL3 : Hid (L3 = Pl.spareL first width c (tak fs p width (p + off) sym) (fun x => (mk x).getD false)) := hL3
  have l1 : L1.length ≤ 256 := by rw [hL1]; exact spare_short _ _ _ _ _ hf
  have l2 : L2.length ≤ 256 := by rw [hL2]; exact spare_short _ _ _ _ _ hf
  have l3 : L3.length ≤ 256 := by rw [hL3]; exact spare_short _ _ _ _ _ hf
  have HB1 : Hid (∀ i, bOf L1 i < 256) := fun i => by rw [hL1]; exact spare_small _ _ _ _ _ hf i
  clear ha hm hnil hp hr hL1 hL2 hL3
  go_enter Try.func4, Try.ntmps4
  go_wp2_with fail
  refine (zz_any first width n c c0 a0 fs mo mk L1 w HA.out HM.out hn hw HC.out hf HNil.out HL1.out).mono ?_
  rintro e w1 ⟨a1, cap1, rfl, S1, B1⟩
  have S1 : Hid (Sl .u8 w1 a1 L1.length (bOf L1)) := S1
  have B1 : Hid (Below w.heap.size w w1) := B1
  have A1 : Hid (Sl .u32 w1 a0 n fs) := HA.out.below B1.out
  go_wp2
  go_loopg [19] n (fun g i wr => ∃ j : Nat, j ≤ n ∧ g = n - j ∧ i = .int .i64 j ∧ Hid (Bw .u32 wr w1.heap.size j n fs) ∧ Hid (Below w1.heap.size w1 wr))
  case atStart => exact ⟨0, by omega, rfl, rfl, Bw.start .u32 24 w1 n fs, alloc_bel _ _⟩
  case round =>
    obtain ⟨j, hj, rfl, rfl, HB, hbel⟩ := hrel
    by_cases hlt : j < n
    · have hdn : decide ((j : Int) < (n : Int)) = true := by rw [decide_eq_true_eq]; omega
      obtain ⟨u, cu⟩ := HB.out.room j hlt
      have fu := HB.out.frozen j
      obtain ⟨b, o, rfl, hlb, hcc⟩ := (A1.out.below hbel.out) (by omega)
      have ck := hcc j hlt
      clear hcc
      go_wp2
      go_roundg (n - (j + 1))
      case measure => omega
      case rel => exact ⟨j + 1, by omega, rfl, by go_num, HB.out.put hlt, hbel.out.setCell (Nat.le_refl _) _⟩
    · obtain rfl : n = j := by omega
      have B0 : Hid (Bw .u32 wr w1.heap.size n n (clr fs p 0)) := HB.out.congr (fun j _ => (if_neg (by omega)).symm)
      clear HB
      go_wp2
      go_loopg [20] width (fun g i wr => ∃ t : Nat, t ≤ width ∧ g = width - t ∧ i = .int .i64 t ∧ Hid (Bw .u32 wr w1.heap.size n n (clr fs p t)) ∧ Hid (Below w1.heap.size w1 wr))
      case atStart => exact ⟨0, by omega, rfl, rfl, B0, hbel⟩
      case round =>
        obtain ⟨t, ht, rfl, rfl, HB, hbel⟩ := hrel
        by_cases hlt : t < width
        · have hdn : decide ((t : Int) < (width : Int)) = true := by rw [decide_eq_true_eq]; omega
          obtain ⟨u, cu⟩ := HB.out.room (p + t) (by omega)
          have fu := HB.out.frozen (p + t)
          go_wp2
          go_roundg (width - (t + 1))
          case measure => omega
          case rel => exact ⟨t + 1, by omega, rfl, by go_num, HB.out.clr_step (by omega), hbel.out.setCell (Nat.le_refl _) _⟩
        · obtain rfl : width = t := by omega
          have S2 : Hid (Sl .u32 wr (some ⟨w1.heap.size, 0, none⟩) n (clr fs p width)) := HB.out.sl
          have BB : Hid (Below w.heap.size w wr) := B1.out.trans (hbel.out.mono B1.out.size)
          have S1' : Hid (Sl .u8 wr a1 L1.length (bOf L1)) := S1.out.below hbel.out
          have HM2 : Hid (MapAt wr (.map mo) mk) := HM.out.below BB.out
          clear HB hbel
          go_wp2_with fail
          refine (zz_any first width n c n _ (clr fs p width) mo mk L2 wr S2.out HM2.out hn hw HC.out hf (fun h => by cases h) HL2.out).mono ?_
          rintro e w2 ⟨a2, cap2, rfl, T2, D2⟩
          have T2 : Hid (Sl .u8 w2 a2 L2.length (bOf L2)) := T2
          have BB2 : Hid (Below w.heap.size w w2) := BB.out.trans (D2.mono BB.out.size)
          have S12 : Hid (Sl .u8 w2 a1 L1.length (bOf L1)) := S1'.out.below D2
          have S22 : Hid (Sl .u32 w2 (some ⟨w1.heap.size, 0, none⟩) n (clr fs p width)) := S2.out.below D2
          clear D2 HM2 S1' BB S2 S1 A1 B1 B0
          go_wp2
          go_loopg [23] n (fun g i wr => ∃ j : Nat, j ≤ n ∧ g = n - j ∧ i = .int .i64 j ∧ Hid (Bw .u32 wr w2.heap.size j n (clr fs p width)) ∧ Hid (Below w2.heap.size w2 wr))
          case atStart => exact ⟨0, by omega, rfl, rfl, Bw.start .u32 24 w2 n _, alloc_bel _ _⟩
          case round =>
            obtain ⟨j, hj, rfl, rfl, HB, hbel⟩ := hrel
            by_cases hlt : j < n
            · have hdn : decide ((j : Int) < (n : Int)) = true := by rw [decide_eq_true_eq]; omega
              obtain ⟨u, cu⟩ := HB.out.room j hlt
              have fu := HB.out.frozen j
              obtain ⟨b, o, e, hlb, hcc⟩ := (S22.out.below hbel.out) (by omega)
              cases e
              have ck := hcc j hlt
              rw [Nat.zero_add] at ck
              clear hcc
              go_wp2
              go_roundg (n - (j + 1))
              case measure => omega
              case rel => exact ⟨j + 1, by omega, rfl, by go_num, HB.out.put hlt, hbel.out.setCell (Nat.le_refl _) _⟩
            · obtain rfl : n = j := by omega
              obtain ⟨u, cu⟩ := HB.out.room (p + off) (by omega)
              have fu := HB.out.frozen (p + off)
              have S3 : Hid (Sl .u32 (wr.setCell ⟨w2.heap.size, p + off, none⟩ (.int .u32 sym)) (some ⟨w2.heap.size, 0, none⟩) n (tak fs p width (p + off) sym)) := (HB.out.set (p + off) (by omega) sym).sl
              have D3 : Below w2.heap.size w2 (wr.setCell ⟨w2.heap.size, p + off, none⟩ (.int .u32 sym)) := hbel.out.setCell (Nat.le_refl _) _
              have BB3 : Hid (Below w.heap.size w (wr.setCell ⟨w2.heap.size, p + off, none⟩ (.int .u32 sym))) := BB2.out.trans (D3.mono BB2.out.size)
              have S13 : Hid (Sl .u8 (wr.setCell ⟨w2.heap.size, p + off, none⟩ (.int .u32 sym)) a1 L1.length (bOf L1)) := S12.out.below D3
              have T23 : Hid (Sl .u8 (wr.setCell ⟨w2.heap.size, p + off, none⟩ (.int .u32 sym)) a2 L2.length (bOf L2)) := T2.out.below D3
              have HM3 : Hid (MapAt (wr.setCell ⟨w2.heap.size, p + off, none⟩ (.int .u32 sym)) (.map mo) mk) := HM.out.below BB3.out
              clear D3 HB hbel S12 T2 BB2 S22
              go_wp2_with fail
              refine (zz_any first width n c n _ (tak fs p width (p + off) sym) mo mk L3 _ S3.out HM3.out hn hw HC.out hf (fun h => by cases h) HL3.out).mono ?_
              rintro e w3 ⟨a3, cap3, rfl, T3, D3⟩
              have T3 : Hid (Sl .u8 w3 a3 L3.length (bOf L3)) := T3
              have BB4 : Hid (Below w.heap.size w w3) := BB3.out.trans (D3.mono BB3.out.size)
              have S14 : Hid (Sl .u8 w3 a1 L1.length (bOf L1)) := S13.out.below D3
              have T24 : Hid (Sl .u8 w3 a2 L2.length (bOf L2)) := T23.out.below D3
              have hlk := (HM.out.below BB4.out).look 31 5 4 und31 und5 zero4 (k : Int)
              clear D3 HM3 S13 T23 BB3 S3
              obtain ⟨bm, hbm⟩ : ∃ bm, bm = (mk k).getD false := ⟨_, rfl⟩
              rw [← hbm] at hlk E1
              clear hbm
              obtain ⟨pt, hpt⟩ : ∃ pt, (!bm) = pt := ⟨_, rfl⟩
              have hpt2 : Hid ((!pt) = bm) := by rw [← hpt, Bool.not_not]; exact rfl
              go_wp2_with fail
              refine (edit_any a1 cap1 k pt L1 w3 S14.out l1 hk3 HB1.out).mono ?_
              rw [hpt2.out, E1.out]
              rintro e w4 ⟨a4, cap4, rfl, T4, D4⟩
              have T4 : Hid (Sl .u8 w4 a4 L2.length (bOf L2)) := T4
              have T25 : Hid (Sl .u8 w4 a2 L2.length (bOf L2)) := T24.out.below D4
              have S15 : Hid (Sl .u8 w4 a1 L1.length (bOf L1)) := S14.out.below D4
              have T35 : Hid (Sl .u8 w4 a3 L3.length (bOf L3)) := T3.out.below D4
              have BB5 : Hid (Below w.heap.size w w4) := BB4.out.trans (D4.mono BB4.out.size)
              clear D4
              go_wp2_with fail
              refine (same_any a2 a4 L2.length cap2 cap4 (bOf L2) w4 T25.out T4.out (by omega)).mono ?_
              rintro e w5 ⟨rfl, D5⟩
              have S16 : Hid (Sl .u8 w5 a1 L1.length (bOf L1)) := S15.out.below D5
              have T36 : Hid (Sl .u8 w5 a3 L3.length (bOf L3)) := T35.out.below D5
              have BB6 : Hid (Below w.heap.size w w5) := BB5.out.trans (D5.mono BB5.out.size)
              clear D5
              go_wp2_with fail
              refine (edit_any a1 cap1 k false L1 w5 S16.out l1 hk3 HB1.out).mono ?_
              rw [Bool.not_false, E2.out]
              rintro e w6 ⟨a6, cap6, rfl, T6, D6⟩
              have T6 : Hid (Sl .u8 w6 a6 L3.length (bOf L3)) := T6
              have T37 : Hid (Sl .u8 w6 a3 L3.length (bOf L3)) := T36.out.below D6
              have BB7 : Hid (Below w.heap.size w w6) := BB6.out.trans (D6.mono BB6.out.size)
              clear D6
              go_wp2_with fail
              refine (same_any a3 a6 L3.length cap3 cap6 (bOf L3) w6 T37.out T6.out (by omega)).mono ?_
              rintro e w7 ⟨rfl, D7⟩
              go_wp2
              go_ret
              exact ⟨rfl, BB7.out.trans (D7.mono BB7.out.size)⟩
end Go.Proofs.Qxb6617836a
