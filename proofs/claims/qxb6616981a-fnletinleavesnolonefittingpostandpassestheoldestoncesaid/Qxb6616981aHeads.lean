/-
  zzLaneHeads, zzNextAfter, zzIntakeDomain, walked.
-/
import Derived.Test.Qxb6616981aSl
namespace Go.Proofs.Qxb6616981a
open Go.RowKit

set_option maxRecDepth 100000
set_option maxHeartbeats 4000000

/-- The oldest and the best of the posts of kind l among the first k. -/
def Heads (sz : Nat → Int) (small : Int) (l : Bool) (k : Nat) (x y : Int) : Prop :=
  ((∀ j, j < k → decide (small < sz j) ≠ l) ∧ x = -1 ∧ y = -1) ∨
  ∃ f b : Nat, x = f ∧ y = b ∧ f < k ∧ b < k ∧ decide (small < sz f) = l ∧ decide (small < sz b) = l ∧ (∀ j, j < k → decide (small < sz j) = l → f ≤ j) ∧ (∀ j, j < k → decide (small < sz j) = l → ¬ Hp.lt sz j b)

theorem Heads.skip {sz : Nat → Int} {small : Int} {l : Bool} {k : Nat} {x y : Int} (h : Heads sz small l k x y) (hk : decide (small < sz k) ≠ l) : Heads sz small l (k + 1) x y := by
  rcases h with ⟨h1, h2, h3⟩ | ⟨f, b, h1, h2, h3, h4, h5, h6, h7, h8⟩
  · refine .inl ⟨fun j hj => ?_, h2, h3⟩
    by_cases e : j = k
    · subst e; exact hk
    · exact h1 j (by omega)
  · refine .inr ⟨f, b, h1, h2, by omega, by omega, h5, h6, fun j hj hjl => ?_, fun j hj hjl => ?_⟩
    · by_cases e : j = k
      · subst e; exact absurd hjl hk
      · exact h7 j (by omega) hjl
    · by_cases e : j = k
      · subst e; exact absurd hjl hk
      · exact h8 j (by omega) hjl

theorem Heads.first {sz : Nat → Int} {small : Int} {l : Bool} {k : Nat} (h : ∀ j, j < k → decide (small < sz j) ≠ l) (hk : decide (small < sz k) = l) : Heads sz small l (k + 1) k k := by
  refine .inr ⟨k, k, rfl, rfl, by omega, by omega, hk, hk, fun j hj hjl => ?_, fun j hj hjl => ?_⟩
  · by_cases e : j = k
    · omega
    · exact absurd hjl (h j (by omega))
  · by_cases e : j = k
    · subst e; exact Hp.lt_irrefl _
    · exact absurd hjl (h j (by omega))

theorem heads_more {sz : Nat → Int} {small : Int} {l : Bool} {k f b : Nat} (h3 : f < k) (h4 : b < k) (h5 : decide (small < sz f) = l) (h6 : decide (small < sz b) = l) (h7 : ∀ j, j < k → decide (small < sz j) = l → f ≤ j) (h8 : ∀ j, j < k → decide (small < sz j) = l → ¬ Hp.lt sz j b)
    (hk : decide (small < sz k) = l) : Heads sz small l (k + 1) f (if sz k < sz b then (k : Int) else (b : Int)) := by
  by_cases hs : sz k < sz b
  · rw [if_pos hs]
    refine .inr ⟨f, k, rfl, rfl, by omega, by omega, h5, hk, fun j hj hjl => ?_, fun j hj hjl => ?_⟩
    · by_cases e : j = k
      · omega
      · exact h7 j (by omega) hjl
    · by_cases e : j = k
      · subst e; exact Hp.lt_irrefl _
      · have := h8 j (by omega) hjl
        unfold Hp.lt at this ⊢; omega
  · rw [if_neg hs]
    refine .inr ⟨f, b, rfl, rfl, by omega, by omega, h5, h6, fun j hj hjl => ?_, fun j hj hjl => ?_⟩
    · by_cases e : j = k
      · omega
      · exact h7 j (by omega) hjl
    · by_cases e : j = k
      · subst e; unfold Hp.lt; omega
      · exact h8 j (by omega) hjl

def DRs (w w2 : World) : Prop := ∃ nq, w2 = w.drewN nq
theorem DRs.refl (w : World) : DRs w w := ⟨0, rfl⟩
theorem DRs.more {w w2 : World} (h : DRs w w2) (q : Nat) : DRs w (w2.drewN q) := by
  obtain ⟨a, rfl⟩ := h
  exact ⟨a + q, World.drewN_drewN _ _ _⟩
theorem Sl.drs {w w2 : World} {a : Option Addr} {n : Nat} {f : Nat → Value} (h : Sl w a n f) (hd : DRs w w2) : Sl w2 a n f := by obtain ⟨q, rfl⟩ := hd; exact h.drewN q

theorem heads_walk (a : Option Addr) (n c : Nat) (sz : Nat → Int) (small : Int) (l fg : Bool) (w : World) (hn : n ≤ 70000) (hs : Sl w a n (fun j => .int .i64 (sz j))) :
    Calls Try.prog 13 #[.slice a n c, .int .i64 small, .bool l, .bool fg] w fun e w' => ∃ x y : Int, e = .returned (.tuple #[.int .i64 x, .int .i64 (if fg then x else y)]) ∧ Hid (DRs w w') ∧ Hid (Heads sz small l n x y) := by
  have HS : Hid (Sl w a n (fun j => .int .i64 (sz j))) := hs
  clear hs
  go_enter Try.func13, Try.ntmps13
  go_wp2
  go_loopg [10, 11, 12] n (fun q s10 s11 s12 wr => ∃ (k : Nat) (x y : Int), k ≤ n ∧ q = n - k ∧ s10 = .int .i64 x ∧ s11 = .int .i64 y ∧ s12 = .int .i64 k ∧ Hid (DRs w wr) ∧ Hid (Heads sz small l k x y))
  case atStart => exact ⟨0, -1, -1, by omega, rfl, rfl, rfl, rfl, DRs.refl _, .inl ⟨fun j hj => by omega, rfl, rfl⟩⟩
  case round =>
    obtain ⟨k, x, y, hk, rfl, rfl, rfl, rfl, HD, HH⟩ := hrel
    by_cases hlt : k < n
    · have hdn : decide ((k : Int) < (n : Int)) = true := by rw [decide_eq_true_eq]; omega
      obtain ⟨b, o, rfl, hlb, hc⟩ := (HS.out.drs HD.out) (by omega)
      have HC : Hid (∀ j, j < n → wr.cell? ⟨b, o + j, none⟩ = some (.int .i64 (sz j))) := hc
      have ck := HC.out k hlt
      clear hc
      obtain ⟨kd, hkd⟩ : ∃ kd, decide (small < sz k) = kd := ⟨_, rfl⟩
      have HKD : Hid (decide (small < sz k) = kd) := hkd
      by_cases hkl : kd = l
      · rcases HH.out with ⟨h1, rfl, rfl⟩ | ⟨f, bb, rfl, rfl, h3, h4, h5, h6, h7, h8⟩
        · have HN : Hid (∀ j, j < k → decide (small < sz j) ≠ l) := h1
          clear h1 HH
          subst hkl
          cases kd with
          | true =>
            go_wp2
            go_quiet (fail)
            go_wp2
            go_roundg (n - (k + 1))
            case measure => omega
            case rel => exact ⟨k + 1, k, k, by omega, rfl, rfl, rfl, by go_num, HD.out.more _, Heads.first HN.out HKD.out⟩
          | false =>
            go_wp2
            go_quiet (fail)
            go_wp2
            go_roundg (n - (k + 1))
            case measure => omega
            case rel => exact ⟨k + 1, k, k, by omega, rfl, rfl, rfl, by go_num, HD.out.more _, Heads.first HN.out HKD.out⟩
        · have HM : Hid (Heads sz small l (k + 1) f (if sz k < sz bb then (k : Int) else (bb : Int))) := heads_more h3 h4 h5 h6 h7 h8 (by rw [hkd, hkl])
          have cb := HC.out bb (by omega)
          have d1 : decide ((f : Int) < 0) = false := by rw [decide_eq_false_iff_not]; omega
          have d2 : decide ((bb : Int) < 0) = false := by rw [decide_eq_false_iff_not]; omega
          clear h5 h6 h7 h8 HH
          subst hkl
          by_cases hss : sz k < sz bb
          · have d3 : decide (sz k < sz bb) = true := decide_eq_true hss
            rw [if_pos hss] at HM
            clear hss
            cases kd with
            | true =>
              go_wp2
              go_quiet (fail)
              go_wp2
              go_roundg (n - (k + 1))
              case measure => omega
              case rel => exact ⟨k + 1, f, k, by omega, rfl, rfl, rfl, by go_num, HD.out.more _, HM⟩
            | false =>
              go_wp2
              go_quiet (fail)
              go_wp2
              go_roundg (n - (k + 1))
              case measure => omega
              case rel => exact ⟨k + 1, f, k, by omega, rfl, rfl, rfl, by go_num, HD.out.more _, HM⟩
          · have d3 : decide (sz k < sz bb) = false := decide_eq_false hss
            rw [if_neg hss] at HM
            clear hss
            cases kd with
            | true =>
              go_wp2
              go_quiet (fail)
              go_wp2
              go_roundg (n - (k + 1))
              case measure => omega
              case rel => exact ⟨k + 1, f, bb, by omega, rfl, rfl, rfl, by go_num, HD.out.more _, HM⟩
            | false =>
              go_wp2
              go_quiet (fail)
              go_wp2
              go_roundg (n - (k + 1))
              case measure => omega
              case rel => exact ⟨k + 1, f, bb, by omega, rfl, rfl, rfl, by go_num, HD.out.more _, HM⟩
      · have HM : Hid (Heads sz small l (k + 1) x y) := HH.out.skip (by rw [hkd]; exact hkl)
        cases kd with
        | true =>
          cases l with
          | true => exact absurd rfl hkl
          | false =>
            clear hkl
            go_wp2
            go_roundg (n - (k + 1))
            case measure => omega
            case rel => exact ⟨k + 1, x, y, by omega, rfl, rfl, rfl, by go_num, HD, HM⟩
        | false =>
          cases l with
          | false => exact absurd rfl hkl
          | true =>
            clear hkl
            go_wp2
            go_roundg (n - (k + 1))
            case measure => omega
            case rel => exact ⟨k + 1, x, y, by omega, rfl, rfl, rfl, by go_num, HD, HM⟩
    · obtain rfl : k = n := by omega
      cases fg with
      | true =>
        go_wp2
        go_ret2
        exact ⟨x, rfl, HD, y, HH⟩
      | false =>
        go_wp2
        go_ret2
        exact ⟨x, y, rfl, HD, HH⟩
theorem dom_walk (room lroom small held lheld : Int) (a : Option Addr) (n c : Nat) (sz : Nat → Int) (w : World) (hn : n ≤ 70000) (hs : Sl w a n (fun j => .int .i64 (sz j))) :
    Calls Try.prog 6 #[.int .i64 room, .int .i64 lroom, .int .i64 small, .int .i64 held, .int .i64 lheld, .slice a n c] w fun e w' => ∃ t, e = .returned (.bool t) ∧ w' = w ∧ Hid (t = true → (0 ≤ room ∧ room ≤ 70368744177664 ∧ 0 ≤ lroom ∧ lroom ≤ room ∧ 0 ≤ small ∧ small ≤ 70368744177664 ∧ 0 ≤ held ∧ held ≤ room ∧ 0 ≤ lheld ∧ lheld ≤ held ∧ lheld ≤ lroom) ∧ ∀ i, i < n → 0 ≤ sz i ∧ sz i ≤ 70368744177664) := by
  have HS : Hid (Sl w a n (fun j => .int .i64 (sz j))) := hs
  clear hs
  by_cases h0 : room < 0
  · have d0 : decide (room < 0) = true := decide_eq_true h0
    clear h0
    go_enter Try.func6, Try.ntmps6
    go_wp2
    go_ret
    exact ⟨false, rfl, rfl, fun h => by cases h⟩
  have d0 : decide (room < 0) = false := decide_eq_false h0
  by_cases h1 : 70368744177664 < room
  · have d1 : decide (70368744177664 < room) = true := decide_eq_true h1
    clear h0
    clear h1
    go_enter Try.func6, Try.ntmps6
    go_wp2
    go_ret
    exact ⟨false, rfl, rfl, fun h => by cases h⟩
  have d1 : decide (70368744177664 < room) = false := decide_eq_false h1
  by_cases h2 : lroom < 0
  · have d2 : decide (lroom < 0) = true := decide_eq_true h2
    clear h0
    clear h1
    clear h2
    go_enter Try.func6, Try.ntmps6
    go_wp2
    go_ret
    exact ⟨false, rfl, rfl, fun h => by cases h⟩
  have d2 : decide (lroom < 0) = false := decide_eq_false h2
  by_cases h3 : room < lroom
  · have d3 : decide (room < lroom) = true := decide_eq_true h3
    clear h0
    clear h1
    clear h2
    clear h3
    go_enter Try.func6, Try.ntmps6
    go_wp2
    go_ret
    exact ⟨false, rfl, rfl, fun h => by cases h⟩
  have d3 : decide (room < lroom) = false := decide_eq_false h3
  by_cases h4 : small < 0
  · have d4 : decide (small < 0) = true := decide_eq_true h4
    clear h0
    clear h1
    clear h2
    clear h3
    clear h4
    go_enter Try.func6, Try.ntmps6
    go_wp2
    go_ret
    exact ⟨false, rfl, rfl, fun h => by cases h⟩
  have d4 : decide (small < 0) = false := decide_eq_false h4
  by_cases h5 : 70368744177664 < small
  · have d5 : decide (70368744177664 < small) = true := decide_eq_true h5
    clear h0
    clear h1
    clear h2
    clear h3
    clear h4
    clear h5
    go_enter Try.func6, Try.ntmps6
    go_wp2
    go_ret
    exact ⟨false, rfl, rfl, fun h => by cases h⟩
  have d5 : decide (70368744177664 < small) = false := decide_eq_false h5
  by_cases h6 : held < 0
  · have d6 : decide (held < 0) = true := decide_eq_true h6
    clear h0
    clear h1
    clear h2
    clear h3
    clear h4
    clear h5
    clear h6
    go_enter Try.func6, Try.ntmps6
    go_wp2
    go_ret
    exact ⟨false, rfl, rfl, fun h => by cases h⟩
  have d6 : decide (held < 0) = false := decide_eq_false h6
  by_cases h7 : room < held
  · have d7 : decide (room < held) = true := decide_eq_true h7
    clear h0
    clear h1
    clear h2
    clear h3
    clear h4
    clear h5
    clear h6
    clear h7
    go_enter Try.func6, Try.ntmps6
    go_wp2
    go_ret
    exact ⟨false, rfl, rfl, fun h => by cases h⟩
  have d7 : decide (room < held) = false := decide_eq_false h7
  by_cases h8 : lheld < 0
  · have d8 : decide (lheld < 0) = true := decide_eq_true h8
    clear h0
    clear h1
    clear h2
    clear h3
    clear h4
    clear h5
    clear h6
    clear h7
    clear h8
    go_enter Try.func6, Try.ntmps6
    go_wp2
    go_ret
    exact ⟨false, rfl, rfl, fun h => by cases h⟩
  have d8 : decide (lheld < 0) = false := decide_eq_false h8
  by_cases h9 : held < lheld
  · have d9 : decide (held < lheld) = true := decide_eq_true h9
    clear h0
    clear h1
    clear h2
    clear h3
    clear h4
    clear h5
    clear h6
    clear h7
    clear h8
    clear h9
    go_enter Try.func6, Try.ntmps6
    go_wp2
    go_ret
    exact ⟨false, rfl, rfl, fun h => by cases h⟩
  have d9 : decide (held < lheld) = false := decide_eq_false h9
  by_cases h10 : lroom < lheld
  · have d10 : decide (lroom < lheld) = true := decide_eq_true h10
    clear h0
    clear h1
    clear h2
    clear h3
    clear h4
    clear h5
    clear h6
    clear h7
    clear h8
    clear h9
    clear h10
    go_enter Try.func6, Try.ntmps6
    go_wp2
    go_ret
    exact ⟨false, rfl, rfl, fun h => by cases h⟩
  have d10 : decide (lroom < lheld) = false := decide_eq_false h10
  have HF : Hid (0 ≤ room ∧ room ≤ 70368744177664 ∧ 0 ≤ lroom ∧ lroom ≤ room ∧ 0 ≤ small ∧ small ≤ 70368744177664 ∧ 0 ≤ held ∧ held ≤ room ∧ 0 ≤ lheld ∧ lheld ≤ held ∧ lheld ≤ lroom) := by show _ ∧ _; omega
  clear h0 h1 h2 h3 h4 h5 h6 h7 h8 h9 h10
  go_enter Try.func6, Try.ntmps6
  go_wp2
  go_loopg [13] n (fun q s13 wr => ∃ k : Nat, k ≤ n ∧ q = n - k ∧ s13 = .int .i64 k ∧ wr = w ∧ Hid (∀ i, i < k → 0 ≤ sz i ∧ sz i ≤ 70368744177664))
  case atStart => exact ⟨0, by omega, rfl, rfl, rfl, fun i hi => by omega⟩
  case round =>
    obtain ⟨k, hk, rfl, rfl, rfl, HA⟩ := hrel
    by_cases hlt : k < n
    · have hdn : decide ((k : Int) < (n : Int)) = true := by rw [decide_eq_true_eq]; omega
      obtain ⟨b, o, rfl, hlb, hc⟩ := HS.out (by omega)
      have ck := hc k hlt
      clear hc
      simp only [] at ck
      by_cases e0 : sz k < 0
      · have q0 : decide (sz k < 0) = true := decide_eq_true e0
        clear e0
        go_wp2
        go_ret
        exact ⟨false, rfl, rfl, fun h => by cases h⟩
      · have q0 : decide (sz k < 0) = false := decide_eq_false e0
        by_cases e1 : 70368744177664 < sz k
        · have q1 : decide (70368744177664 < sz k) = true := decide_eq_true e1
          clear e0 e1
          go_wp2
          go_ret
          exact ⟨false, rfl, rfl, fun h => by cases h⟩
        · have q1 : decide (70368744177664 < sz k) = false := decide_eq_false e1
          have HA2 : Hid (∀ i, i < k + 1 → 0 ≤ sz i ∧ sz i ≤ 70368744177664) := fun i hi => by
            by_cases e : i = k
            · subst e; omega
            · exact HA.out i (by omega)
          clear e0 e1
          go_wp2
          go_roundg (n - (k + 1))
          case measure => omega
          case rel => exact ⟨k + 1, by omega, rfl, by go_num, rfl, HA2⟩
    · obtain rfl : k = n := by omega
      go_wp2
      go_ret
      exact ⟨true, rfl, rfl, fun _ => ⟨HF.out, HA.out⟩⟩

theorem next_walk (a a2 : Option Addr) (m c n c2 : Nat) (g : Nat → Nat) (sz : Nat → Int) (fg : Bool) (w : World) (hm0 : 0 < m) (hm : m ≤ 70000) (hn : n ≤ 70000) (hs : Sl w a m (fun j => .int .u64 (g j))) (hz : Sl w a2 n (fun j => .int .i64 (sz j))) (hg : ∀ j, j < m → g j < n) :
    Calls Try.prog 16 #[.slice a m c, .slice a2 n c2, .bool fg] w fun e w' => ∃ i, e = .returned (.int .i64 (g i)) ∧ i < m ∧ Hid (DRs w w') ∧ Hid (if fg then i = 0 else ∀ j, j < m → ¬ Hp.lt sz (g j) (g i)) := by
  have HS : Hid (Sl w a m (fun j => .int .u64 (g j))) := hs
  have HZ : Hid (Sl w a2 n (fun j => .int .i64 (sz j))) := hz
  have HG : Hid (∀ j, j < m → g j < n) := hg
  obtain ⟨b0, o0, e0, hlb0, hc0⟩ := HS.out hm0
  have c0 := hc0 0 hm0
  have g0 := HG.out 0 hm0
  simp only [Nat.add_zero] at c0
  clear hs hz hg hc0
  cases fg with
  | true =>
    subst e0
    go_enter Try.func16, Try.ntmps16
    go_wp2
    go_ret
    exact ⟨0, rfl, hm0, DRs.refl _, rfl⟩
  | false =>
    subst e0
    go_enter Try.func16, Try.ntmps16
    go_wp2
    go_loopg [7, 8, 9] (m - 1) (fun q s7 s8 s9 wr => ∃ (k i : Nat), 0 < k ∧ k ≤ m ∧ i < k ∧ q = m - k ∧ s7 = .int .i64 (g i) ∧ s8 = .int .i64 k ∧ Hid (DRs w wr) ∧ Hid (∀ j, j < k → ¬ Hp.lt sz (g j) (g i)))
    case atStart => exact ⟨1, 0, by omega, by omega, by omega, rfl, rfl, rfl, DRs.refl _, fun j hj => by have : j = 0 := by omega
                                                                                                         subst this; exact Hp.lt_irrefl _⟩
    case round =>
      obtain ⟨k, i, hk0, hk, hik, rfl, rfl, rfl, HD, HB⟩ := hrel
      by_cases hlt : k < m
      · have hdn : decide ((k : Int) < (m : Int)) = true := by rw [decide_eq_true_eq]; omega
        obtain ⟨b, o, eb, hlb, hc⟩ := (HS.out.drs HD.out) (by omega)
        have ck := hc k hlt
        clear hc
        cases eb
        obtain ⟨b2, o2, rfl, hlb2, hc2⟩ := (HZ.out.drs HD.out) (by omega)
        have gk3 := HG.out k hlt
        have gi := HG.out i (by omega)
        have z1 := hc2 (g k) gk3
        have z2 := hc2 (g i) gi
        clear hc2
        simp only [] at ck z1 z2
        by_cases h1 : sz (g k) < sz (g i)
        · have d1 : decide (sz (g k) < sz (g i)) = true := decide_eq_true h1
          have HN : Hid (∀ j, j < k + 1 → ¬ Hp.lt sz (g j) (g k)) := fun j hj => by
            by_cases e : j = k
            · subst e; exact Hp.lt_irrefl _
            · have := HB.out j (by omega)
              unfold Hp.lt at this ⊢; omega
          clear h1
          go_wp2
          go_quiet (fail)
          go_wp2
          go_roundg (m - (k + 1))
          case measure => omega
          case rel => exact ⟨k + 1, k, by omega, by omega, by omega, rfl, rfl, by go_num, HD.out.more _, HN⟩
        · have d1 : decide (sz (g k) < sz (g i)) = false := decide_eq_false h1
          by_cases h2 : sz (g k) = sz (g i)
          · have d2 : (sz (g k) == sz (g i)) = true := by rw [beq_iff_eq]; exact h2
            by_cases h3 : g k < g i
            · have d3 : decide ((g k : Int) < (g i : Int)) = true := by rw [decide_eq_true_eq]; omega
              have d4 : decide (g k < g i) = true := decide_eq_true h3
              have HN : Hid (∀ j, j < k + 1 → ¬ Hp.lt sz (g j) (g k)) := fun j hj => by
                by_cases e : j = k
                · subst e; exact Hp.lt_irrefl _
                · have := HB.out j (by omega)
                  unfold Hp.lt at this ⊢; omega
              clear h1 h2 h3
              go_wp2
              go_quiet (fail)
              go_wp2
              go_roundg (m - (k + 1))
              case measure => omega
              case rel => exact ⟨k + 1, k, by omega, by omega, by omega, rfl, rfl, by go_num, HD.out.more _, HN⟩
            · have d3 : decide ((g k : Int) < (g i : Int)) = false := by rw [decide_eq_false_iff_not]; omega
              have d4 : decide (g k < g i) = false := decide_eq_false h3
              have HN : Hid (∀ j, j < k + 1 → ¬ Hp.lt sz (g j) (g i)) := fun j hj => by
                by_cases e : j = k
                · subst e; unfold Hp.lt; omega
                · exact HB.out j (by omega)
              clear h1 h2 h3
              go_wp2
              go_quiet (fail)
              go_wp2
              go_roundg (m - (k + 1))
              case measure => omega
              case rel => exact ⟨k + 1, i, by omega, by omega, by omega, rfl, rfl, by go_num, HD.out.more _, HN⟩
          · have d2 : (sz (g k) == sz (g i)) = false := by rw [beq_eq_false_iff_ne]; exact h2
            have HN : Hid (∀ j, j < k + 1 → ¬ Hp.lt sz (g j) (g i)) := fun j hj => by
              by_cases e : j = k
              · subst e; unfold Hp.lt; omega
              · exact HB.out j (by omega)
            clear h1 h2
            go_wp2
            go_quiet (fail)
            go_wp2
            go_roundg (m - (k + 1))
            case measure => omega
            case rel => exact ⟨k + 1, i, by omega, by omega, by omega, rfl, rfl, by go_num, HD.out.more _, HN⟩
      · obtain rfl : k = m := by omega
        go_wp2
        go_ret
        exact ⟨i, rfl, hik, HD, HB⟩
end Go.Proofs.Qxb6616981a
