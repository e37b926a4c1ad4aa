/-
  The operations on doubles, by the words between which the exact value lies. No Go in sight.
-/
import Derived.Test.Qxb6617808aFloat
namespace Go.Proofs.Qxb6617808a.Dbl
open Ieee

/-- r is the word for the exact value X: on the right side of every word. -/
structure Near (r X : Nat) : Prop where
  fin : r < inf
  up : ∀ z, X ≤ val z → r ≤ z
  down : ∀ z, val z ≤ X → z ≤ r

theorem nearest_near (mag P : Nat) (h0 : 0 < mag) (hP : P + mag.log2 ≤ 2000) : Near (double.nearest false mag ((P : Int) - 1074)) (mag * 2 ^ P) := by
  obtain ⟨L, kept, hr, hL, hk, hLk, hX, hkk⟩ := nearest_core mag P h0 hP
  have hv : val (double.nearest false mag ((P : Int) - 1074)) = kept * 2 ^ L := by
    rw [hr]; exact val_rung L kept hk (hLk.imp id (·.1))
  refine ⟨?_, fun z hz => le_of_val ?_, fun z hz => le_of_val ?_⟩
  · rw [hr]
    refine Nat.lt_of_le_of_lt (Nat.add_le_add (Nat.mul_le_mul_right _ hL) hk) ?_
    decide
  · rw [hv]
    have hd : ∃ k, val z = k * 2 ^ L := by
      rcases hLk with h | ⟨_, h⟩
      · exact ⟨val z, by rw [h]; simp⟩
      · exact val_dvd z L (Nat.le_trans h hz)
    obtain ⟨k, hkz⟩ := hd
    rw [hkz] at hz ⊢
    exact Nat.mul_le_mul_right _ ((hkk k).1 hz)
  · rw [hv]
    by_cases hb : 2 ^ (L + 52) ≤ val z
    · obtain ⟨k, hkz⟩ := val_dvd z L hb
      rw [hkz] at hz ⊢
      exact Nat.mul_le_mul_right _ ((hkk k).2 hz)
    · rcases hLk with h | ⟨h, _⟩
      · subst h
        have := (hkk (val z)).2 (by simpa using hz)
        simpa using this
      · refine Nat.le_trans (Nat.le_of_lt (Nat.lt_of_not_le hb)) ?_
        rw [Nat.pow_add, Nat.mul_comm]
        exact Nat.mul_le_mul_right _ h

/-- A whole number of at most 53 digits is kept as it is. -/
theorem nearest_exact (N P : Nat) (h0 : 0 < N) (hN : N < 2 ^ 53) (hP : P ≤ 1900) : val (double.nearest false N ((P : Int) - 1074)) = N * 2 ^ P := by
  have hl : N.log2 < 53 := (Nat.log2_lt (by omega)).2 hN
  obtain ⟨L, kept, hr, hL, hk, hLk, hX, hkk⟩ := nearest_core N P h0 (by omega)
  rw [hr, val_rung L kept hk (hLk.imp id (·.1))]
  have hLP : L ≤ P := by
    rcases hLk with h | ⟨_, h⟩
    · omega
    · have h2 : N * 2 ^ P < 2 ^ (53 + P) := by rw [Nat.pow_add]; exact Nat.mul_lt_mul_of_pos_right hN (Nat.two_pow_pos _)
      have := (Nat.pow_lt_pow_iff_right (a := 2) (by decide)).1 (Nat.lt_of_le_of_lt h h2)
      omega
  have e3 : N * 2 ^ P = N * 2 ^ (P - L) * 2 ^ L := by rw [Nat.mul_assoc, ← Nat.pow_add, show P - L + L = P from by omega]
  rw [e3] at hkk ⊢
  have a := (hkk (N * 2 ^ (P - L))).1 (Nat.le_refl _)
  have b := (hkk (N * 2 ^ (P - L))).2 (Nat.le_refl _)
  rw [Nat.le_antisymm a b]

theorem read_fin (x : Nat) (h : x < inf) : ∃ m I : Nat, double.read x = .number false m ((I : Int) - 1074) ∧ val x = m * 2 ^ I ∧ m < 2 ^ 53 ∧ I ≤ 2046 := by
  have h63 : x < 2 ^ 63 := Nat.lt_trans h (by decide)
  have e1 : (x / double.signWeight % 2 == 1) = false := by rw [sign_eq, Nat.div_eq_of_lt h63]; rfl
  have e2 : x % double.signWeight = x := by rw [sign_eq]; exact Nat.mod_eq_of_lt h63
  unfold Format.read
  simp only [e1, e2, binade_eq, infRung_eq, least_eq]
  by_cases h1 : x < 2 ^ 52
  · rw [if_pos h1]
    exact ⟨x, 0, rfl, by unfold val; rw [if_pos h1]; simp, by omega, by omega⟩
  · rw [if_neg h1, if_pos h]
    refine ⟨2 ^ 52 + x % 2 ^ 52, x / 2 ^ 52 - 1, ?_, by unfold val; rw [if_neg h1], by omega, ?_⟩
    · congr 1
    · unfold inf at h; omega

theorem compare_mul (a b c : Nat) (hc : 0 < c) : compare (a : Int) (b : Int) = compare (a * c) (b * c) := by
  rcases Nat.lt_trichotomy a b with h | h | h
  · rw [Int.compare_eq_lt.2 (by omega), Nat.compare_eq_lt.2 (Nat.mul_lt_mul_of_pos_right h hc)]
  · subst h; rw [Int.compare_eq_eq.2 rfl, Nat.compare_eq_eq.2 rfl]
  · rw [Int.compare_eq_gt.2 (by omega), Nat.compare_eq_gt.2 (Nat.mul_lt_mul_of_pos_right h hc)]

theorem order_fin (x y : Nat) (hx : x < inf) (hy : y < inf) : double.order x y = some (compare (val x) (val y)) := by
  obtain ⟨m, I, rx, vx, _, _⟩ := read_fin x hx
  obtain ⟨n, J, ry, vy, _, _⟩ := read_fin y hy
  unfold Format.order
  rw [rx, ry]
  simp only [Datum.order, signed]
  rw [if_neg (by decide), if_neg (by decide)]
  have e1 : ((I : Int) - 1074 - min ((I : Int) - 1074) ((J : Int) - 1074)).toNat = I - min I J := by omega
  have e2 : ((J : Int) - 1074 - min ((I : Int) - 1074) ((J : Int) - 1074)).toNat = J - min I J := by omega
  rw [e1, e2, Nat.shiftLeft_eq, Nat.shiftLeft_eq, compare_mul _ _ (2 ^ min I J) (Nat.two_pow_pos _), Nat.mul_assoc, ← Nat.pow_add, Nat.mul_assoc, ← Nat.pow_add,
    show I - min I J + min I J = I from by omega, show J - min I J + min I J = J from by omega, vx, vy]

/-- '<=' on positive finite words. -/
theorem leq_fin (x y : Nat) (hx : x < inf) (hy : y < inf) : (double.order x y == some .lt || double.order x y == some .eq) = decide (x ≤ y) := by
  rw [order_fin x y hx hy]
  rcases Nat.lt_trichotomy x y with h | h | h
  · rw [Nat.compare_eq_lt.2 (val_lt h), decide_eq_true (by omega)]; rfl
  · subst h; rw [Nat.compare_eq_eq.2 rfl, decide_eq_true (by omega)]; rfl
  · rw [Nat.compare_eq_gt.2 (val_lt h), decide_eq_false (by omega)]; rfl

theorem log2_lt53 {m : Nat} (h : m < 2 ^ 53) : m.log2 ≤ 52 := by
  by_cases h0 : m = 0
  · subst h0; decide
  · have := (Nat.log2_lt h0).2 h; omega

theorem pow_shift (m n I J K T : Nat) (h : K + T = I + J) : m * n * 2 ^ K * 2 ^ T = m * 2 ^ I * (n * 2 ^ J) := by
  rw [Nat.mul_assoc, ← Nat.pow_add, h, Nat.pow_add, Nat.mul_mul_mul_comm]
theorem pow_shift2 (m I T a b c : Nat) (h : I + T = a + (b + c)) : m * 2 ^ I * 2 ^ T = m * 2 ^ a * 2 ^ b * 2 ^ c := by
  rw [Nat.mul_assoc, ← Nat.pow_add, h, Nat.pow_add, Nat.pow_add, ← Nat.mul_assoc, ← Nat.mul_assoc]

/-- A product. -/
theorem mul_near (T E K x y : Nat) (hT : T = 1074) (hE : E = 1138) (hK : K = 1000) (hx : x < inf) (hy : y < inf) (lx : 2 ^ K ≤ val x) (ux : val x < 2 ^ E) (ly : 2 ^ K ≤ val y) (uy : val y < 2 ^ E) :
    ∃ r X, double.mul x y = some r ∧ Near r X ∧ X * 2 ^ T = val x * val y := by
  obtain ⟨m, I, rx, vx, hm, _⟩ := read_fin x hx
  obtain ⟨n, J, ry, vy, hn, _⟩ := read_fin y hy
  have m0 : 0 < m := by
    rcases Nat.eq_zero_or_pos m with h | h
    · have px : 0 < val x := Nat.lt_of_lt_of_le (Nat.two_pow_pos _) lx
      rw [vx, h, Nat.zero_mul] at px; exact absurd px (Nat.lt_irrefl 0)
    · exact h
  have n0 : 0 < n := by
    rcases Nat.eq_zero_or_pos n with h | h
    · have py : 0 < val y := Nat.lt_of_lt_of_le (Nat.two_pow_pos _) ly
      rw [vy, h, Nat.zero_mul] at py; exact absurd py (Nat.lt_irrefl 0)
    · exact h
  have bI : 947 ≤ I ∧ I < 1138 := by
    constructor
    · have h1 : m * 2 ^ I < 2 ^ (53 + I) := by rw [Nat.pow_add]; exact Nat.mul_lt_mul_of_pos_right hm (Nat.two_pow_pos _)
      have := (Nat.pow_lt_pow_iff_right (a := 2) (by decide)).1 (Nat.lt_of_le_of_lt lx (vx ▸ h1))
      omega
    · have h1 : 2 ^ I ≤ m * 2 ^ I := Nat.le_mul_of_pos_left _ m0
      have := (Nat.pow_lt_pow_iff_right (a := 2) (by decide)).1 (Nat.lt_of_le_of_lt h1 (vx ▸ ux))
      omega
  have bJ : 947 ≤ J ∧ J < 1138 := by
    constructor
    · have h1 : n * 2 ^ J < 2 ^ (53 + J) := by rw [Nat.pow_add]; exact Nat.mul_lt_mul_of_pos_right hn (Nat.two_pow_pos _)
      have := (Nat.pow_lt_pow_iff_right (a := 2) (by decide)).1 (Nat.lt_of_le_of_lt ly (vy ▸ h1))
      omega
    · have h1 : 2 ^ J ≤ n * 2 ^ J := Nat.le_mul_of_pos_left _ n0
      have := (Nat.pow_lt_pow_iff_right (a := 2) (by decide)).1 (Nat.lt_of_le_of_lt h1 (vy ▸ uy))
      omega
  have hmn : 0 < m * n := Nat.mul_pos m0 n0
  have hlog : (m * n).log2 < 106 := (Nat.log2_lt (by omega)).2 (by
    calc m * n < 2 ^ 53 * 2 ^ 53 := Nat.mul_lt_mul'' hm hn
      _ = 2 ^ 106 := by decide)
  refine ⟨_, _, ?_, nearest_near (m * n) (I + J - 1074) hmn (by omega), ?_⟩
  · unfold Format.mul
    rw [rx, ry]
    simp only [Datum.product, Option.map_some, Format.write]
    have ep : ((I : Int) - 1074 + ((J : Int) - 1074)) = ((I + J - 1074 : Nat) : Int) - 1074 := by omega
    rw [ep]
    rfl
  · rw [vx, vy]
    exact pow_shift m n I J (I + J - 1074) T (by omega)

/-- A difference. -/
theorem sub_near (E x y : Nat) (hE : E = 1138) (hx : x < inf) (hy : y < inf) (ux : val x < 2 ^ E) (hlt : val y < val x) : ∃ r, double.sub x y = some r ∧ Near r (val x - val y) := by
  obtain ⟨m, I, rx, vx, hm, _⟩ := read_fin x hx
  obtain ⟨n, J, ry, vy, hn, _⟩ := read_fin y hy
  have e1 : ((I : Int) - 1074 - min ((I : Int) - 1074) ((J : Int) - 1074)).toNat = I - min I J := by omega
  have e2 : ((J : Int) - 1074 - min ((I : Int) - 1074) ((J : Int) - 1074)).toNat = J - min I J := by omega
  have ex : val x = m * 2 ^ (I - min I J) * 2 ^ min I J := by rw [vx, Nat.mul_assoc, ← Nat.pow_add, show I - min I J + min I J = I from by omega]
  have ey : val y = n * 2 ^ (J - min I J) * 2 ^ min I J := by rw [vy, Nat.mul_assoc, ← Nat.pow_add, show J - min I J + min I J = J from by omega]
  obtain ⟨A, hA⟩ : ∃ A, A = m * 2 ^ (I - min I J) := ⟨_, rfl⟩
  obtain ⟨B, hB⟩ : ∃ B, B = n * 2 ^ (J - min I J) := ⟨_, rfl⟩
  have hAB : B < A := by
    rw [ex, ey, ← hA, ← hB] at hlt
    exact Nat.lt_of_mul_lt_mul_right hlt
  have hX : val x - val y = (A - B) * 2 ^ min I J := by rw [ex, ey, ← hA, ← hB, Nat.sub_mul]
  have hlog : min I J + (A - B).log2 ≤ 2000 := by
    have h1 : 2 ^ (A - B).log2 ≤ A - B := Nat.log2_self_le (by omega)
    have h2 : 2 ^ ((A - B).log2 + min I J) ≤ (A - B) * 2 ^ min I J := by rw [Nat.pow_add]; exact Nat.mul_le_mul_right _ h1
    have h3 : (A - B) * 2 ^ min I J < 2 ^ E := by rw [← hX]; exact Nat.lt_of_le_of_lt (Nat.sub_le _ _) ux
    have := (Nat.pow_lt_pow_iff_right (a := 2) (by decide)).1 (Nat.lt_of_le_of_lt h2 h3)
    omega
  refine ⟨_, ?_, hX ▸ nearest_near (A - B) (min I J) (by omega) hlog⟩
  unfold Format.sub
  rw [rx, ry]
  simp only [Datum.sum, Datum.opposite, Option.map_some, Format.write, signed, e1, e2, Nat.shiftLeft_eq]
  rw [← hA, ← hB]
  have t1 : ((if false = true then -(A : Int) else (A : Int)) + if (!false) = true then -(B : Int) else (B : Int)) = ((A - B : Nat) : Int) := by
    rw [if_neg (by decide), if_pos (by decide)]; omega
  rw [t1, if_neg (by omega), decide_eq_false (by omega), Int.natAbs_natCast]
  congr 2
  omega

/-- A quotient of two numbers of the size of whole ones. -/
theorem div_near (T E x y : Nat) (hT : T = 1074) (hE : E = 1138) (hx : x < inf) (hy : y < inf) (lx : 2 ^ T ≤ val x) (ux : val x < 2 ^ E) (ly : 2 ^ T ≤ val y) (uy : val y < 2 ^ E) :
    ∃ r, double.div x y = some r ∧ r < inf ∧ ∀ z, (val x * 2 ^ T ≤ val z * val y → r ≤ z) ∧ (val z * val y ≤ val x * 2 ^ T → z ≤ r) := by
  obtain ⟨m, I, rx, vx, hm, _⟩ := read_fin x hx
  obtain ⟨n, J, ry, vy, hn, _⟩ := read_fin y hy
  have m0 : 0 < m := by
    rcases Nat.eq_zero_or_pos m with h | h
    · have px : 0 < val x := Nat.lt_of_lt_of_le (Nat.two_pow_pos _) lx
      rw [vx, h, Nat.zero_mul] at px; exact absurd px (Nat.lt_irrefl 0)
    · exact h
  have n0 : 0 < n := by
    rcases Nat.eq_zero_or_pos n with h | h
    · have py : 0 < val y := Nat.lt_of_lt_of_le (Nat.two_pow_pos _) ly
      rw [vy, h, Nat.zero_mul] at py; exact absurd py (Nat.lt_irrefl 0)
    · exact h
  have bI : 1021 ≤ I ∧ I < 1138 := by
    constructor
    · have h1 : m * 2 ^ I < 2 ^ (53 + I) := by rw [Nat.pow_add]; exact Nat.mul_lt_mul_of_pos_right hm (Nat.two_pow_pos _)
      have := (Nat.pow_lt_pow_iff_right (a := 2) (by decide)).1 (Nat.lt_of_le_of_lt lx (vx ▸ h1))
      omega
    · have h1 : 2 ^ I ≤ m * 2 ^ I := Nat.le_mul_of_pos_left _ m0
      have := (Nat.pow_lt_pow_iff_right (a := 2) (by decide)).1 (Nat.lt_of_le_of_lt h1 (vx ▸ ux))
      omega
  have bJ : 1021 ≤ J ∧ J < 1138 := by
    constructor
    · have h1 : n * 2 ^ J < 2 ^ (53 + J) := by rw [Nat.pow_add]; exact Nat.mul_lt_mul_of_pos_right hn (Nat.two_pow_pos _)
      have := (Nat.pow_lt_pow_iff_right (a := 2) (by decide)).1 (Nat.lt_of_le_of_lt ly (vy ▸ h1))
      omega
    · have h1 : 2 ^ J ≤ n * 2 ^ J := Nat.le_mul_of_pos_left _ n0
      have := (Nat.pow_lt_pow_iff_right (a := 2) (by decide)).1 (Nat.lt_of_le_of_lt h1 (vy ▸ uy))
      omega
  have lm := log2_lt53 hm
  have ln := log2_lt53 hn
  obtain ⟨more, hmore⟩ : ∃ more, more = 54 + n.log2 - m.log2 := ⟨_, rfl⟩
  obtain ⟨Q, hQ⟩ : ∃ Q, Q = m * 2 ^ more / n := ⟨_, rfl⟩
  obtain ⟨R, hR⟩ : ∃ R, R = m * 2 ^ more % n := ⟨_, rfl⟩
  have hdm : n * Q + R = m * 2 ^ more := by rw [hQ, hR]; exact Nat.div_add_mod _ _
  have hRn : R < n := by rw [hR]; exact Nat.mod_lt _ n0
  have hmlo : 2 ^ m.log2 ≤ m := Nat.log2_self_le (by omega)
  have hmhi : m < 2 ^ (m.log2 + 1) := Nat.lt_log2_self
  have hnlo : 2 ^ n.log2 ≤ n := Nat.log2_self_le (by omega)
  have hnhi : n < 2 ^ (n.log2 + 1) := Nat.lt_log2_self
  have hpm : 0 < 2 ^ more := Nat.two_pow_pos _
  have hQlo : 2 ^ 53 ≤ Q := by
    rw [hQ, Nat.le_div_iff_mul_le n0]
    calc 2 ^ 53 * n ≤ 2 ^ 53 * 2 ^ (n.log2 + 1) := Nat.mul_le_mul_left _ (by omega)
      _ = 2 ^ (m.log2 + more) := by rw [← Nat.pow_add]; congr 1; omega
      _ = 2 ^ m.log2 * 2 ^ more := Nat.pow_add ..
      _ ≤ m * 2 ^ more := Nat.mul_le_mul_right _ hmlo
  have hQhi : Q < 2 ^ 55 := by
    rw [hQ, Nat.div_lt_iff_lt_mul n0]
    calc m * 2 ^ more < 2 ^ (m.log2 + 1) * 2 ^ more := Nat.mul_lt_mul_of_pos_right hmhi hpm
      _ = 2 ^ 55 * 2 ^ n.log2 := by rw [← Nat.pow_add, ← Nat.pow_add]; congr 1; omega
      _ ≤ 2 ^ 55 * n := Nat.mul_le_mul_left _ hnlo
  obtain ⟨s, hs⟩ : ∃ s, s = (R != 0).toNat := ⟨_, rfl⟩
  have hs1 : s ≤ 1 := by rw [hs]; exact Bool.toNat_le _
  have hsR : s = 0 → R = 0 := by
    intro h
    rw [hs] at h
    cases hb : (R != 0) with
    | false => simpa using hb
    | true => rw [hb] at h; simp at h
  have hsR' : R = 0 → s = 0 := by intro h; rw [hs, h]; rfl
  obtain ⟨P, hP⟩ : ∃ P, P + J + more + 1 = I + 1074 := ⟨I + 1074 - J - more - 1, by omega⟩
  have hmag0 : 0 < 2 * Q + s := by omega
  have hlog : (2 * Q + s).log2 < 57 := (Nat.log2_lt (by omega)).2 (by omega)
  have near := nearest_near (2 * Q + s) P hmag0 (by omega)
  have hpP : 0 < 2 ^ P := Nat.two_pow_pos _
  have hpJ : 0 < 2 ^ J := Nat.two_pow_pos _
  -- both sides brought to units
  have eX : val x * 2 ^ T = (m * 2 ^ more) * 2 ^ (P + 1) * 2 ^ J := by
    rw [vx]
    exact pow_shift2 m I T more (P + 1) J (by omega)
  have eY : ∀ z, val z * val y = (val z * n) * 2 ^ J := by intro z; rw [vy, Nat.mul_assoc]
  refine ⟨_, ?_, near.fin, fun z => ⟨fun h => near.up z ?_, fun h => near.down z ?_⟩⟩
  · unfold Format.div
    rw [rx, ry]
    simp only [Datum.quotient]
    rw [if_neg (by omega)]
    simp only [Option.map_some, Format.write, Nat.shiftLeft_eq]
    rw [show double.fractionBits + 2 + n.log2 - m.log2 = more from by rw [hmore]; rfl, ← hQ, ← hR, ← hs]
    have ep : ((I : Int) - 1074 - ((J : Int) - 1074) - (more : Int) - 1) = (P : Int) - 1074 := by omega
    rw [ep]
    rfl
  · rw [eX, eY] at h
    have h' : m * 2 ^ more * 2 ^ (P + 1) ≤ val z * n := Nat.le_of_mul_le_mul_right h hpJ
    have hbig : 2 ^ (P + 1 + 52) ≤ val z := by
      have h1 : 2 ^ (P + 1 + 52) * n ≤ val z * n := by
        refine Nat.le_trans ?_ h'
        calc 2 ^ (P + 1 + 52) * n ≤ (Q * n) * 2 ^ (P + 1) := by
              rw [Nat.add_comm (P + 1) 52, Nat.pow_add, Nat.mul_assoc, Nat.mul_comm (2 ^ (P + 1)) n, ← Nat.mul_assoc]
              exact Nat.mul_le_mul_right _ (Nat.mul_le_mul_right _ (Nat.le_trans (by decide) hQlo))
          _ ≤ m * 2 ^ more * 2 ^ (P + 1) := Nat.mul_le_mul_right _ (by rw [Nat.mul_comm]; omega)
      exact Nat.le_of_mul_le_mul_right h1 n0
    obtain ⟨k, hk⟩ := val_dvd z (P + 1) hbig
    rw [hk] at h' ⊢
    have h2 : m * 2 ^ more ≤ k * n := by
      refine Nat.le_of_mul_le_mul_right ?_ (Nat.two_pow_pos (P + 1))
      refine Nat.le_trans h' ?_
      rw [Nat.mul_assoc, Nat.mul_comm (2 ^ (P + 1)) n, ← Nat.mul_assoc]
      exact Nat.le_refl _
    have h3 : 2 * Q + s ≤ 2 * k := by
      rw [← hdm] at h2
      by_cases hz : R = 0
      · have := hsR' hz
        have h4 : n * Q ≤ n * k := by rw [Nat.mul_comm n k]; omega
        have := Nat.le_of_mul_le_mul_left h4 n0
        omega
      · have h4 : n * Q < n * k := by rw [Nat.mul_comm n k]; omega
        have := Nat.lt_of_mul_lt_mul_left h4
        omega
    calc (2 * Q + s) * 2 ^ P ≤ (2 * k) * 2 ^ P := Nat.mul_le_mul_right _ h3
      _ = k * 2 ^ (P + 1) := by rw [Nat.pow_succ, Nat.mul_comm 2 k, Nat.mul_assoc, Nat.mul_comm 2]
  · rw [eX, eY] at h
    have h' : val z * n ≤ m * 2 ^ more * 2 ^ (P + 1) := Nat.le_of_mul_le_mul_right h hpJ
    by_cases hbig : 2 ^ (P + 1 + 52) ≤ val z
    · obtain ⟨k, hk⟩ := val_dvd z (P + 1) hbig
      rw [hk] at h' ⊢
      have h2 : k * n ≤ m * 2 ^ more := by
        refine Nat.le_of_mul_le_mul_right ?_ (Nat.two_pow_pos (P + 1))
        refine Nat.le_trans ?_ h'
        rw [Nat.mul_assoc k (2 ^ (P + 1)) n, Nat.mul_comm (2 ^ (P + 1)) n, ← Nat.mul_assoc]
        exact Nat.le_refl _
      have h3 : k ≤ Q := by rw [hQ, Nat.le_div_iff_mul_le n0]; exact h2
      calc k * 2 ^ (P + 1) = (2 * k) * 2 ^ P := by rw [Nat.pow_succ, Nat.mul_comm 2 k, Nat.mul_assoc, Nat.mul_comm 2]
        _ ≤ (2 * Q + s) * 2 ^ P := Nat.mul_le_mul_right _ (by omega)
    · refine Nat.le_trans (Nat.le_of_lt (Nat.lt_of_not_le hbig)) ?_
      rw [show P + 1 + 52 = 53 + P from by omega, Nat.pow_add]
      exact Nat.mul_le_mul_right _ (by omega)

end Go.Proofs.Qxb6617808a.Dbl
