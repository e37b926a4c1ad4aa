/-
  zzLaneIs, walked.
-/
import Derived.Test.Qxb6616981aZlane
namespace Go.Proofs.Qxb6616981a
open Go.RowKit
set_option maxRecDepth 100000
set_option maxHeartbeats 4000000

variable {w0 w : World} {S S' : St} {pr : Prm} {st : A} {op : Nat → Bool} {l : Bool}

theorem cnt_inj {p : Nat → Bool} {i y : Nat} (hi : p i = true) (hy : p y = true) (h : cnt p i = cnt p y) : i = y := by
  rcases Nat.lt_trichotomy i y with e | e | e
  · have : cnt p (i + 1) ≤ cnt p y := cnt_mono e
    rw [cnt, hi] at this; simp at this; omega
  · exact e
  · have : cnt p (y + 1) ≤ cnt p i := cnt_mono e
    rw [cnt, hy] at this; simp at this; omega

theorem Enum.at_ {O : List Nat} {p : Nat → Bool} {K i : Nat} (h : Enum O p K) (hi : p i = true) (hK : i < K) : cnt p i < O.length ∧ O.getD (cnt p i) 0 = i := by
  have h1 : cnt p i < O.length := by
    rw [h.len]
    have : cnt p (i + 1) ≤ cnt p K := cnt_mono hK
    rw [cnt, hi] at this; simp at this; omega
  refine ⟨h1, ?_⟩
  obtain ⟨a, b, c⟩ := h.mem _ h1
  exact cnt_inj a hi c

theorem is_walk (hd : Dom pr) (h : Inv w0 w S pr st op) (a r : Option Addr) (c c2 : Nat) (hs : Sl w a pr.K (fun j => .int .i64 (pr.sz j))) (hr : Sl w r pr.K (fun j => .bool (!st.wt j))) :
    Calls Try.prog 11 #[pt S.I 0, .bool l, .slice a pr.K c, .int .i64 pr.small, .slice r pr.K c2] w fun e w' => e = .returned (.bool true) ∧ Hid (Below w.heap.size w w') := by
  have hK := hd.K
  have HS : Hid (Sl w a pr.K (fun j => .int .i64 (pr.sz j))) := hs
  have HR : Hid (Sl w r pr.K (fun j => .bool (!st.wt j))) := hr
  have CZ : Hid (Calls Try.prog 14 #[pt S.I 0, .bool l] w fun e w' => ∃ (O : List Nat) (a : Option Addr) (c : Nat), e = .returned (.tuple #[.slice a O.length c, .int .i64 O.length, .bool (st.fl l)]) ∧ Hid (Enum O (P pr st l) pr.K) ∧ Hid (Sl w' a O.length (fun j => .int .u64 (O.getD j 0))) ∧ Hid (Below w.heap.size w w')) := zlane_walk hd h
  clear h hd hs hr
  go_enter Try.func11, Try.ntmps11
  go_wp2_with fail
  refine CZ.out.mono ?_
  rintro e w1 ⟨O, sa, sc, rfl, HE, HSl, HB1⟩
  have HS1 : Hid (Sl w1 a pr.K (fun j => .int .i64 (pr.sz j))) := HS.out.below HB1.out
  have HR1 : Hid (Sl w1 r pr.K (fun j => .bool (!st.wt j))) := HR.out.below HB1.out
  have hOK : O.length ≤ pr.K := by rw [HE.out.len]; exact cnt_le
  have HOl : Hid (O.length = cnt (P pr st l) pr.K) := HE.out.len
  clear CZ HS HR
  go_wp2
  go_loopg [14, 15] pr.K (fun q s14 s15 wr => ∃ k : Nat, k ≤ pr.K ∧ q = pr.K - k ∧ s14 = .int .i64 (cnt (P pr st l) k : Nat) ∧ s15 = .int .i64 k ∧ wr = w1)
  case atStart => exact ⟨0, by omega, rfl, rfl, rfl, rfl⟩
  case round =>
    obtain ⟨k, hk, rfl, rfl, rfl, rfl⟩ := hrel
    by_cases hlt : k < pr.K
    · have hdn : decide ((k : Int) < (pr.K : Int)) = true := by rw [decide_eq_true_eq]; omega
      obtain ⟨b, o, rfl, hlb, hc⟩ := HS1.out (by omega)
      have ck := hc k hlt
      obtain ⟨b2, o2, rfl, hlb2, hc2⟩ := HR1.out (by omega)
      have rk := hc2 k hlt
      clear hc hc2
      simp only [] at ck rk
      obtain ⟨wt, hwt⟩ : ∃ wt, st.wt k = wt := ⟨_, rfl⟩
      rw [hwt] at rk
      obtain ⟨kd, hkd⟩ : ∃ kd, decide (pr.small < pr.sz k) = kd := ⟨_, rfl⟩
      have HP : Hid (P pr st l k = (wt && (kd == l))) := by show P pr st l k = _; unfold P Prm.lg; rw [hwt, hkd]
      clear hwt
      obtain ⟨ck1, hck1⟩ : ∃ x, x = cnt (P pr st l) k := ⟨_, rfl⟩
      have HCK : Hid (ck1 = cnt (P pr st l) k) := hck1
      rw [← hck1]
      clear hck1
      cases wt with
      | false =>
        simp only [Bool.not_false] at rk
        go_wp2
        go_roundg (pr.K - (k + 1))
        case measure => omega
        case rel =>
          refine ⟨k + 1, by omega, rfl, ?_, by go_num, rfl⟩
          rw [cnt, HP.out, HCK.out]; simp
      | true =>
        simp only [Bool.not_true] at rk
        by_cases hkl : kd = l
        · have hPk : P pr st l k = true := by rw [HP.out, hkl]; simp
          obtain ⟨hj, hget⟩ := HE.out.at_ hPk hlt
          rw [← HCK.out] at hj hget
          obtain ⟨b3, o3, rfl, hlb3, hc3⟩ := HSl.out (by omega)
          have sk := hc3 ck1 hj
          simp only [hget] at sk
          have hge : decide ((O.length : Int) ≤ (ck1 : Int)) = false := by rw [decide_eq_false_iff_not]; omega
          have HC2 : Hid (cnt (P pr st l) (k + 1) = ck1 + 1) := by show cnt (P pr st l) (k + 1) = _; rw [cnt, hPk, HCK.out]; simp
          clear hc3 hPk hget
          subst hkl
          cases kd with
          | true =>
            go_wp2
            go_roundg (pr.K - (k + 1))
            case measure => omega
            case rel =>
              refine ⟨k + 1, by omega, rfl, ?_, by go_num, rfl⟩
              rw [HC2.out]; go_num
          | false =>
            go_wp2
            go_roundg (pr.K - (k + 1))
            case measure => omega
            case rel =>
              refine ⟨k + 1, by omega, rfl, ?_, by go_num, rfl⟩
              rw [HC2.out]; go_num
        · have HC2 : Hid (cnt (P pr st l) (k + 1) = ck1) := by
            show cnt (P pr st l) (k + 1) = _
            have : (kd == l) = false := by rw [beq_eq_false_iff_ne]; exact hkl
            rw [cnt, HP.out, this, HCK.out]; simp
          cases kd with
          | true =>
            cases l with
            | true => exact absurd rfl hkl
            | false =>
              clear hkl
              go_wp2
              go_roundg (pr.K - (k + 1))
              case measure => omega
              case rel => exact ⟨k + 1, by omega, rfl, by rw [HC2.out], by go_num, rfl⟩
          | false =>
            cases l with
            | false => exact absurd rfl hkl
            | true =>
              clear hkl
              go_wp2
              go_roundg (pr.K - (k + 1))
              case measure => omega
              case rel => exact ⟨k + 1, by omega, rfl, by rw [HC2.out], by go_num, rfl⟩
    · obtain rfl : k = pr.K := by omega
      rw [← HOl.out]
      go_wp2
      go_ret
      exact ⟨rfl, HB1⟩
end Go.Proofs.Qxb6616981a
