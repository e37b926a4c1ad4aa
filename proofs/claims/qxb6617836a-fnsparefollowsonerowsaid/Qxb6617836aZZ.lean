import Derived.Test.Qxb6617836aSpare
namespace Go.Proofs.Qxb6617836a
open Go.RowKit

def bOf (L : List Nat) (j : Nat) : Int := ((L.getD j 0 : Nat) : Int)

theorem sl_of_owns {w : World} {base : Nat} {v : Value} {L : List Nat} (h : w.ownsRow base 50 1 v L.length (vsOf L)) : ∃ a cap, v = .slice a L.length cap ∧ Sl .u8 w a L.length (bOf L) := by
  rcases h.2 with ⟨rfl, h2⟩ | ⟨g, cap, cur, rfl, h2, h3, h4, h5, h6, h7⟩
  · rw [h2]; exact ⟨none, 0, rfl, fun h => absurd h (Nat.lt_irrefl 0)⟩
  · refine ⟨_, _, rfl, fun _ => ⟨g, 0, rfl, (h.lt g rfl).2, fun j hj => ?_⟩⟩
    have hc := h.cells (g := g) rfl j (.int .u8 (bOf L j)) ?_
    · rw [Addr.add_lit] at hc; exact hc
    · unfold vsOf bOf
      rw [List.getElem?_map, List.getElem?_eq_getElem hj, Option.map_some, List.getD_eq_getElem?_getD, List.getElem?_eq_getElem hj]; rfl

theorem spareL_congr {first width c : Nat} {fs : Nat → Int} {m1 m2 : Nat → Bool} (h : ∀ x, x < first + c → m1 x = m2 x) : Pl.spareL first width c fs m1 = Pl.spareL first width c fs m2 := by
  unfold Pl.spareL
  exact Pl.runP_congr (fun x _ h2 => by rw [h x h2])

set_option maxRecDepth 100000 in
set_option maxHeartbeats 4000000 in
theorem zz_any (first width n c c0 : Nat) (a0 : Option Addr) (fs : Nat → Int) (mo : Option Nat) (mk : Int → Option Bool) (L : List Nat) (w : World)
    (ha : Sl .u32 w a0 n fs) (hm : MapAt w (.map mo) mk) (hn : n ≤ 65536) (hw : 1 ≤ width) (hc : c = n / width) (hf : first + c ≤ 256) (hnil : a0.isSome = false → n = 0)
    (hL : L = Pl.spareL first width c fs (fun x => (mk x).getD false)) :
    Calls Try.prog 11 #[.int .u8 (first : Int), .int .i64 (width : Int), .slice a0 n c0, .map mo, .slice none 0 0] w fun e w' =>
      ∃ a' cap, e = .returned (.slice a' L.length cap) ∧ Sl .u8 w' a' L.length (bOf L) ∧ Below w.heap.size w w' := by
  have hLc : L.length ≤ 256 := by
    rw [hL]; unfold Pl.spareL Pl.runP
    exact Nat.le_trans (List.length_filter_le ..) (by rw [List.length_range']; omega)
  have hmk0 := make_run 32 5 .u8 1 Try.underlying32 info5 (by decide) L.length L.length (Nat.le_refl _) (by omega)
  have hq := fun (w : World) (a : Option Addr) (n c : Nat) => Lib.run_eql_slice_nil (P := Try.prog) w 49 50 a n c 0 0 Try.underlying49
  have HA : Hid (Sl .u32 w a0 n fs) := ha
  have HM : Hid (MapAt w (.map mo) mk) := hm
  have HC : Hid (c = n / width) := hc
  have HNil : Hid (a0.isSome = false → n = 0) := hnil
  have HL : Hid (L = Pl.spareL first width c fs (fun x => (mk x).getD false)) := hL
  clear ha hm hc hnil hL
  go_enter Try.func11, Try.ntmps11
  go_wp2_with fail
  refine (keymap_any first width a0 n c0 fs mo mk w HA.out hn HM.out HNil.out).mono ?_
  rintro e w1 ⟨a1, mv, rfl, HS, HM1, hb1⟩
  have HS : Hid (Sl .u32 w1 a1 n fs) := HS
  have HM1 : Hid (MapAt w1 mv (fun x => if 0 ≤ x ∧ x < 256 then mk x else none)) := HM1
  obtain ⟨mo1, rfl⟩ : ∃ mo1, mv = .map mo1 := by
    rcases HM1.out with ⟨h, _⟩ | ⟨r, _, _, h, _⟩
    · exact ⟨_, h⟩
    · exact ⟨_, h⟩
  go_wp2_with fail
  refine (spare_any first width n c a1 fs mo1 _ w1 HS.out HM1.out hn hw HC.out hf).mono ?_
  rintro e w2 ⟨v, rfl, HO, hb2⟩
  rw [spareL_congr (m2 := fun x => (mk x).getD false) (fun x hx => by show (if 0 ≤ (x : Int) ∧ (x : Int) < 256 then mk x else none).getD false = (mk x).getD false; rw [if_pos (by omega)]), ← HL.out] at HO
  obtain ⟨a2, cap2, rfl, HS2⟩ := sl_of_owns HO
  have HS2 : Hid (Sl .u8 w2 a2 L.length (bOf L)) := HS2
  have HB2 : Hid (Below w.heap.size w w2) := hb1.trans (hb2.mono hb1.size)
  clear HO hb1 hb2 HS HM1
  cases hn2 : a2.isNone with
  | true =>
    have h0 : L.length = 0 := by
      rcases Nat.eq_zero_or_pos L.length with h | h
      · exact h
      · obtain ⟨b, o, rfl, _⟩ := HS2.out h; cases hn2
    go_wp2
    go_ret
    exact ⟨none, 0, by rw [h0]; rfl, fun h => by omega, HB2.out⟩
  | false =>
    obtain ⟨m, hm⟩ : ∃ m, m = L.length := ⟨_, rfl⟩
    rw [← hm] at HS2 hLc hmk0 ⊢
    have HMl : Hid (m = L.length) := hm
    clear hm
    go_wp2
    go_loopg [13] m (fun g i wr => ∃ k : Nat, k ≤ m ∧ g = m - k ∧ i = .int .i64 k ∧ Hid (Bw .u8 wr w2.heap.size k m (bOf L)) ∧ Below w2.heap.size w2 wr)
    case atStart => exact ⟨0, by omega, rfl, rfl, Bw.start .u8 5 w2 m (bOf L), alloc_bel _ _⟩
    case round =>
      obtain ⟨k, hk, rfl, rfl, HB, hbel⟩ := hrel
      by_cases hlt : k < m
      · have hdn : decide ((k : Int) < (m : Int)) = true := by rw [decide_eq_true_eq]; omega
        obtain ⟨u, cu⟩ := HB.out.room k hlt
        have fu := HB.out.frozen k
        obtain ⟨b, o, rfl, hlb, hc⟩ := (HS2.out.below hbel) (by omega)
        have ck := hc k hlt
        clear hc
        go_wp2
        go_roundg (m - (k + 1))
        case measure => omega
        case rel => exact ⟨k + 1, by omega, rfl, by go_num, HB.out.put hlt, hbel.setCell (Nat.le_refl _) _⟩
      · obtain rfl : k = m := by omega
        go_wp2
        go_ret
        have hk2 := HMl.out
        subst hk2
        exact ⟨_, _, rfl, HB.out.sl, HB2.out.trans (hbel.mono HB2.out.size)⟩
end Go.Proofs.Qxb6617836a
