/-
  THE PLAIN LAW: which aliased counts the share lets by. No Go in sight.
-/
import Derived.Test.Qxb6617808aShares
namespace Go.Proofs.Qxb6617808a.Dbl
open Ieee

theorem lem_up (C N K B G T v : Nat) (tg : T = B * G) (hq : v ≤ N * G) (h : C * N ≤ K * B) : C * G * v ≤ K * G * T := by
  rw [tg]
  calc C * G * v ≤ C * G * (N * G) := Nat.mul_le_mul_left _ hq
    _ = (C * N) * (G * G) := Nat.mul_mul_mul_comm ..
    _ ≤ (K * B) * (G * G) := Nat.mul_le_mul_right _ h
    _ = K * G * (B * G) := Nat.mul_mul_mul_comm ..
theorem lem_down (C N K B G T v : Nat) (tg : T = B * G) (hq : N * G ≤ v) (h : K * B ≤ C * N) : K * G * T ≤ C * G * v := by
  rw [tg]
  calc K * G * (B * G) = (K * B) * (G * G) := Nat.mul_mul_mul_comm ..
    _ ≤ (C * N) * (G * G) := Nat.mul_le_mul_right _ h
    _ = C * G * (N * G) := Nat.mul_mul_mul_comm ..
    _ ≤ C * G * v := Nat.mul_le_mul_left _ hq
theorem fin1 (d M S B C E a : Nat) (lin : B * M ≤ C * S + E) (h : a * C + 5 ≤ d * M) (hE : d * E ≤ 5 * B) (hC : 0 < C) : a * B ≤ S * d := by
  refine Nat.le_of_mul_le_mul_right (c := C) ?_ hC
  have h1 : B * (a * C + 5) ≤ d * (C * S + E) := by
    refine Nat.le_trans (Nat.mul_le_mul_left B h) ?_
    rw [Nat.mul_left_comm]
    exact Nat.mul_le_mul_left d lin
  rw [Nat.mul_add, Nat.mul_add] at h1
  have e1 : B * (a * C) = a * B * C := by rw [← Nat.mul_assoc, Nat.mul_comm B a]
  have e2 : d * (C * S) = S * d * C := by rw [Nat.mul_comm C S, ← Nat.mul_assoc, Nat.mul_comm d S]
  have e3 : B * 5 = 5 * B := Nat.mul_comm ..
  rw [e1, e2, e3] at h1
  omega
theorem fin2 (d M S B C E a : Nat) (lin : C * S ≤ B * M + E) (h : d * M + 5 ≤ a * C) (hE : d * E + d * C ≤ 5 * B) (hC : 0 < C) : (S + 1) * d ≤ a * B := by
  refine Nat.le_of_mul_le_mul_right (c := C) ?_ hC
  have h1 : d * (C * S) ≤ d * (B * M + E) := Nat.mul_le_mul_left d lin
  have h2 : B * (d * M + 5) ≤ B * (a * C) := Nat.mul_le_mul_left B h
  rw [Nat.mul_add] at h1 h2
  have e1 : B * (a * C) = a * B * C := by rw [← Nat.mul_assoc, Nat.mul_comm B a]
  have e2 : d * (B * M) = B * (d * M) := Nat.mul_left_comm ..
  have e3 : B * 5 = 5 * B := Nat.mul_comm ..
  have e4 : (S + 1) * d * C = d * (C * S) + d * C := by rw [Nat.add_mul, Nat.one_mul, Nat.add_mul, Nat.mul_comm S d, Nat.mul_assoc, Nat.mul_comm S C]
  rw [e1, e3] at h2
  rw [e2] at h1
  rw [e4]
  omega
theorem unit_eq (x M B G T : Nat) (tg : T = B * G) (h : x = M * G) : x * B = M * T := by
  rw [tg, h, Nat.mul_assoc, Nat.mul_comm G]
theorem unit_eq8 (x M A B G T : Nat) (hA : A = 8 * B) (tg : T = B * G) (h : x * 8 = M * G) : x * A = M * T := by
  rw [tg, hA, ← Nat.mul_assoc, h, Nat.mul_assoc, Nat.mul_comm G]

theorem exact_case (a d q r : Nat) (hq : d = 100 * (q + 1)) (ha : a = 99 * (q + 1)) (h4 : q < 4000) (hr : double.div (fl a) (fl d) = some r) : r ≤ c99 := by
  have ok := okTo_at 4000 q h4 okTo_all
  unfold okAt at ok
  rw [← ha, ← hq, hr, okR_some] at ok
  exact of_decide_eq_true ok

/-- Up to 400,000: 99 in a hundred. -/
theorem low_share (d a : Nat) (h1 : 1000 < d) (h2 : d ≤ 400000) (a1 : 0 < a) (a2 : a ≤ 9223372036854775807) :
    ∃ r, double.div (fl a) (fl d) = some r ∧ r < inf ∧ (r ≤ c99 ↔ 100 * a ≤ 99 * d) := by
  obtain ⟨t, s, u, k, T, U, G, o⟩ := ones
  obtain ⟨r, hr, hf, up, down⟩ := quo_ints o a d a1 (by omega) (by omega) (by omega)
  refine ⟨r, hr, hf, ⟨fun h => ?_, fun h => ?_⟩⟩
  · rcases Nat.lt_or_ge (99 * d) (100 * a) with c | c
    · have := down (c99 + 1) 8917127262193583 9007199254740992 (unit_eq _ _ _ _ _ o.tg (c99_next o)) (by omega) (by omega)
      omega
    · exact c
  · by_cases e : 100 * a = 99 * d
    · obtain ⟨q, hq⟩ : ∃ q, d = 100 * (q + 1) := ⟨d / 100 - 1, by omega⟩
      exact exact_case a d q r hq (by omega) (by omega) hr
    · exact up c99 8917127262193582 9007199254740992 (unit_eq _ _ _ _ _ o.tg (c99_val o)) (by omega) (by omega) (by omega)

/-- From 4,000,000 on: one in ten. -/
theorem high_share (d a : Nat) (h1 : 4000000 ≤ d) (h2 : d ≤ 281474976710656) (a1 : 0 < a) (a2 : a ≤ 9223372036854775807) :
    ∃ r, double.div (fl a) (fl d) = some r ∧ r < inf ∧ (r ≤ c10 ↔ 10 * a ≤ d) := by
  obtain ⟨t, s, u, k, T, U, G, o⟩ := ones
  obtain ⟨r, hr, hf, up, down⟩ := quo_ints o a d a1 (by omega) (by omega) (by omega)
  refine ⟨r, hr, hf, ⟨fun h => ?_, fun h => ?_⟩⟩
  · rcases Nat.lt_or_ge d (10 * a) with c | c
    · have := down (c10 + 1) 7205759403792795 72057594037927936 (unit_eq8 _ _ _ _ _ _ (by decide) o.tg (c10_next o)) (by omega) (by omega)
      omega
    · exact c
  · exact up c10 7205759403792794 72057594037927936 (unit_eq8 _ _ _ _ _ _ (by decide) o.tg (c10_val o)) (by omega) (by omega) (by omega)

theorem wd_mono_lt {t s u k T U G : Nat} (o : Ones t s u k T U G) {x N : Nat} (h : val x ≤ N * G) (h1 : N + 1 < 9007199254740992) : x < wd (N + 1) := by
  rcases Nat.lt_or_ge x (wd (N + 1)) with c | c
  · exact c
  · have := val_mono c
    rw [wd_val o (N + 1) (by omega) h1, Nat.add_mul, Nat.one_mul] at this
    have := o.gpos
    omega

/-- The numbers on the slope. -/
theorem slope_nums (d x M : Nat) (hx : x + 400000 = d) (h1 : 400000 < d) (h2 : d < 4000000) (hM : M + 89 * d = 392000000) :
    ∃ N K0 K1 S0 S1, N * 3600000 ≤ x * 9007199254740992 ∧ x * 9007199254740992 ≤ (N + 1) * 3600000 ∧ 0 < N ∧ 2097152 ≤ N ∧ N < 9007199254740992 ∧ N + 1 < 9007199254740992 ∧
      K0 * 9007199254740992 ≤ 8016407336719483 * N ∧ 8016407336719483 * (N + 1) ≤ K1 * 9007199254740992 ∧ 0 < K0 ∧ K0 < 9007199254740992 ∧ 0 < K1 ∧ K1 < 9007199254740992 ∧ K1 < 8917127262193582 ∧
      S0 + K1 = 8917127262193582 ∧ S1 + K0 = 8917127262193582 ∧ 0 < S0 ∧ S0 < 9007199254740992 ∧ 0 < S1 ∧ S1 < 9007199254740992 ∧ S1 + 1 < 9007199254740992 ∧
      9007199254740992 * M ≤ 360000000 * S0 + 1080000000 ∧ 360000000 * S1 ≤ 9007199254740992 * M + 1080000000 := by
  obtain ⟨N, hN⟩ : ∃ N, N = x * 9007199254740992 / 3600000 := ⟨_, rfl⟩
  obtain ⟨K0, hK0⟩ : ∃ K, K = 8016407336719483 * N / 9007199254740992 := ⟨_, rfl⟩
  obtain ⟨K1, hK1⟩ : ∃ K, K = 8016407336719483 * (N + 1) / 9007199254740992 + 1 := ⟨_, rfl⟩
  obtain ⟨S0, hS0⟩ : ∃ S, S = 8917127262193582 - K1 := ⟨_, rfl⟩
  obtain ⟨S1, hS1⟩ : ∃ S, S = 8917127262193582 - K0 := ⟨_, rfl⟩
  refine ⟨N, K0, K1, S0, S1, ?_⟩
  omega

theorem slope_q {t s u k T U G : Nat} (o : Ones t s u k T U G) (x N : Nat) (x0 : 0 < x) (x1 : x < 9007199254740992) (x2 : x ≤ 9223372036854775808)
    (n1 : N * 3600000 ≤ x * 9007199254740992) (n2 : x * 9007199254740992 ≤ (N + 1) * 3600000) (n0 : 0 < N) (n4 : N < 9007199254740992) (n5 : N + 1 < 9007199254740992) :
    ∃ q, double.div (fl x) c36 = some q ∧ q < inf ∧ N * G ≤ val q ∧ val q ≤ (N + 1) * G := by
  have y0 : (0 : Nat) < 3600000 := by decide
  have y1 : (3600000 : Nat) < 9007199254740992 := by decide
  have y2 : (3600000 : Nat) ≤ 9223372036854775808 := by decide
  obtain ⟨q, hq, qf, qz⟩ := div_T o (fl x) (fl 3600000) (fl_near o x x0 x2).fin (fl_near o 3600000 y0 y2).fin (fl_one o x x0 x2) (fl_high o x x0 x2) (fl_one o 3600000 y0 y2) (fl_high o 3600000 y0 y2)
  rw [fl_exact o x x0 x1, fl_exact o 3600000 y0 y1] at qz
  have tg := o.tg
  have key : ∀ A B n : Nat, T = B * G → (n * A ≤ x * B → n * G * (A * T) ≤ x * T * T) ∧ (x * B ≤ n * A → x * T * T ≤ n * G * (A * T)) := by
    intro A B n h
    have e1 : n * G * (A * T) = (n * A) * (G * T) := Nat.mul_mul_mul_comm ..
    have e2 : x * T * T = (x * B) * (G * T) := by
      have : x * T = (x * B) * G := by rw [h, Nat.mul_assoc]
      rw [this, Nat.mul_assoc]
    rw [e1, e2]
    exact ⟨fun h => Nat.mul_le_mul_right _ h, fun h => Nat.mul_le_mul_right _ h⟩
  rw [c36_eq] at hq
  refine ⟨q, hq, qf, ?_, ?_⟩
  · rw [← wd_val o N n0 n4]
    refine val_mono ((qz _).2 ?_)
    rw [wd_val o N n0 n4]
    exact (key 3600000 9007199254740992 N tg).1 n1
  · rw [← wd_val o (N + 1) (Nat.succ_pos N) n5]
    refine val_mono ((qz _).1 ?_)
    rw [wd_val o (N + 1) (Nat.succ_pos N) n5]
    exact (key 3600000 9007199254740992 (N + 1) tg).2 n2

theorem kbound (K G x n c : Nat) (h : K * c = G) (h1 : n * G ≤ x) (hn : 0 < n) (hc : 0 < c) : K ≤ x := by
  refine Nat.le_trans ?_ h1
  rw [← h]
  exact Nat.le_trans (Nat.le_mul_of_pos_right K hc) (Nat.le_mul_of_pos_left _ hn)
theorem ubound (T U G x n B C : Nat) (tg : T = B * G) (tu : C * T < U) (h : x ≤ n * G) (hn : n ≤ B) (hC : 0 < C) : x < U := by
  refine Nat.lt_of_le_of_lt (Nat.le_trans h ?_) tu
  rw [tg]
  exact Nat.le_trans (Nat.mul_le_mul_right G hn) (Nat.le_mul_of_pos_left _ hC)

theorem slope_p {t s u k T U G : Nat} (o : Ones t s u k T U G) (q N K0 K1 : Nat) (qf : q < inf) (qd : N * G ≤ val q) (qu : val q ≤ (N + 1) * G) (n0 : 0 < N) (n5 : N + 1 < 9007199254740992)
    (a0 : K0 * 9007199254740992 ≤ 8016407336719483 * N) (a1 : 8016407336719483 * (N + 1) ≤ K1 * 9007199254740992) (k0 : 0 < K0) (k0' : K0 < 9007199254740992) (k1 : 0 < K1) (k1' : K1 < 9007199254740992) :
    ∃ p, double.mul c89 q = some p ∧ p < inf ∧ K0 * G ≤ val p ∧ val p ≤ K1 * G := by
  have tg := o.tg
  have v89 := c89_val o
  have kq := kbound _ _ _ _ _ o.kg qd n0 (by decide)
  have uq := ubound _ _ _ _ _ _ _ tg o.tu qu (Nat.le_of_lt n5) (by decide)
  have k89 := kbound _ _ _ _ _ o.kg (Nat.le_of_eq v89.symm) (by decide) (by decide)
  have u89 := ubound _ _ _ _ _ _ _ tg o.tu (Nat.le_of_eq v89) (by decide) (by decide)
  obtain ⟨p, X, hp, pn, pX⟩ := mul_T o c89 q c89_fin qf k89 u89 kq uq
  rw [v89] at pX
  refine ⟨p, hp, pn.fin, ?_, ?_⟩
  · rw [← wd_val o K0 k0 k0']
    refine val_mono (pn.down _ ?_)
    rw [wd_val o K0 k0 k0']
    refine Nat.le_of_mul_le_mul_right (c := T) ?_ o.tpos
    rw [pX]
    exact lem_down _ _ _ _ _ _ _ tg qd a0
  · rw [← wd_val o K1 k1 k1']
    refine val_mono (pn.up _ ?_)
    rw [wd_val o K1 k1 k1']
    refine Nat.le_of_mul_le_mul_right (c := T) ?_ o.tpos
    rw [pX]
    exact lem_up _ _ _ _ _ _ _ tg qu a1

theorem diff_le (C S K G x : Nat) (h : S + K = C) (hx : x ≤ K * G) : S * G ≤ C * G - x := by
  rw [← h, Nat.add_mul]; omega
theorem le_diff (C S K G x : Nat) (h : S + K = C) (hx : K * G ≤ x) : C * G - x ≤ S * G := by
  rw [← h, Nat.add_mul]; omega

theorem slope_s {t s u k T U G : Nat} (o : Ones t s u k T U G) (p K0 K1 S0 S1 : Nat) (pf : p < inf) (pd : K0 * G ≤ val p) (pu : val p ≤ K1 * G) (k1' : K1 < 8917127262193582)
    (s0 : S0 + K1 = 8917127262193582) (s1 : S1 + K0 = 8917127262193582) (p0 : 0 < S0) (p0' : S0 < 9007199254740992) (p1 : 0 < S1) (p1' : S1 < 9007199254740992) :
    ∃ sh, double.sub c99 p = some sh ∧ sh < inf ∧ wd S0 ≤ sh ∧ val sh ≤ S1 * G := by
  have v99 := c99_val o
  have plt : val p < val c99 := by
    rw [v99]
    exact Nat.lt_of_le_of_lt pu (Nat.mul_lt_mul_of_pos_right k1' o.gpos)
  have u99 := ubound _ _ _ _ _ _ _ o.tg o.tu (Nat.le_of_eq v99) (by decide) (by decide)
  obtain ⟨sh, hsh, sn⟩ := sub_T o c99 p c99_fin pf u99 plt
  rw [v99] at sn
  refine ⟨sh, hsh, sn.fin, sn.down _ ?_, ?_⟩
  · rw [wd_val o S0 p0 p0']
    exact diff_le _ _ _ _ _ s0 pu
  · rw [← wd_val o S1 p1 p1']
    refine val_mono (sn.up _ ?_)
    rw [wd_val o S1 p1 p1']
    exact le_diff _ _ _ _ _ s1 pd

theorem dE (d : Nat) (h : d < 4000000) : d * 1080000000 ≤ 5 * 9007199254740992 ∧ d * 1080000000 + d * 360000000 ≤ 5 * 9007199254740992 := by omega
theorem minc (a y : Nat) (h : y + 5 ≤ a * 360000000) (hy : y ≤ 4000000 * 392000000) : y + 5 ≤ min a 9007199254740992 * 360000000 := by
  rcases Nat.le_total a 9007199254740992 with c | c
  · rw [Nat.min_eq_left c]; exact h
  · rw [Nat.min_eq_right c]
    exact Nat.le_trans (Nat.add_le_add_right hy 5) (by decide)
theorem smallc (a y : Nat) (h : a * 360000000 + 5 ≤ y) (hy : y ≤ 4000000 * 392000000) : a < 9007199254740992 := by omega

/-- Between them: the slope. -/
theorem slope (d a : Nat) (h1 : 400000 < d) (h2 : d < 4000000) (a1 : 0 < a) (a2 : a ≤ 9223372036854775807) (M : Nat) (hM : M + 89 * d = 392000000) :
    ∃ q p sh r, double.div (fl (d - 400000)) c36 = some q ∧ double.mul c89 q = some p ∧ double.sub c99 p = some sh ∧ sh < inf ∧ double.div (fl a) (fl d) = some r ∧ r < inf ∧
      (a * 360000000 + 5 ≤ d * M → r ≤ sh) ∧ (d * M + 5 ≤ a * 360000000 → sh < r) := by
  obtain ⟨t, s, u, k, T, U, G, o⟩ := ones
  obtain ⟨N, K0, K1, S0, S1, n1, n2, n0, _, n4, n5, e0, e1, k0, k0', k1, k1', k1'', s0, s1, p0, p0', p1, p1', p1'', lin0, lin1⟩ := slope_nums d (d - 400000) M (by omega) h1 h2 hM
  obtain ⟨q, hq, qf, qd, qu⟩ := slope_q o (d - 400000) N (by omega) (by omega) (by omega) n1 n2 n0 n4 n5
  obtain ⟨p, hp, pf, pd, pu⟩ := slope_p o q N K0 K1 qf qd qu n0 n5 e0 e1 k0 k0' k1 k1'
  obtain ⟨sh, hsh, shf, sd, su⟩ := slope_s o p K0 K1 S0 S1 pf pd pu k1'' s0 s1 p0 p0' p1 p1'
  obtain ⟨dE1, dE2⟩ := dE d h2
  have hdM : d * M ≤ 4000000 * 392000000 := Nat.mul_le_mul (Nat.le_of_lt h2) (by clear qd qu pd pu su; omega)
  obtain ⟨r, hr, rf, up, down⟩ := quo_ints o a d a1 (by clear qd qu pd pu su; omega) (by clear qd qu pd pu su; omega) (by clear qd qu pd pu su; omega)
  refine ⟨q, p, sh, r, hq, hp, hsh, shf, hr, rf, fun h => ?_, fun h => ?_⟩
  · have c := smallc a (d * M) h hdM
    refine Nat.le_trans (up (wd S0) S0 9007199254740992 (unit_eq _ _ _ _ _ o.tg (wd_val o S0 p0 p0')) (by decide) c ?_) sd
    exact fin1 d M S0 9007199254740992 360000000 1080000000 a lin0 h dE1 (by decide)
  · have c := minc a (d * M) h hdM
    refine Nat.lt_of_lt_of_le (wd_mono_lt o su p1'') (down (wd (S1 + 1)) (S1 + 1) 9007199254740992 (unit_eq _ _ _ _ _ o.tg (wd_val o (S1 + 1) (Nat.succ_pos S1) p1'')) (by decide) ?_)
    exact fin2 d M S1 9007199254740992 360000000 1080000000 _ lin1 c dE2 (by decide)

end Go.Proofs.Qxb6617808a.Dbl
