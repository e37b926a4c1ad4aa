/-
  WHAT IS NEEDED OF DOUBLES, over whole numbers: a positive word stands for 'val x' units of 2 ^ (-1074); an operation's result lies
  between the words between which its exact value lies. No Go in sight.
-/
import Ieee.Arith
namespace Go.Proofs.Qxb6617808a.Dbl
open Ieee

/-- The units that a positive finite word stands for. -/
def val (x : Nat) : Nat := if x < 2 ^ 52 then x else (2 ^ 52 + x % 2 ^ 52) * 2 ^ (x / 2 ^ 52 - 1)

def inf : Nat := 2047 * 2 ^ 52

theorem infRung_eq : double.infRung = inf := by decide
theorem binade_eq : double.binade = 2 ^ 52 := rfl
theorem sign_eq : double.signWeight = 2 ^ 63 := rfl
theorem least_eq : double.leastPlace = -1074 := by decide

/-- One rung up: at least one unit more. -/
theorem val_succ (x : Nat) : val x < val (x + 1) := by
  unfold val
  by_cases h1 : x + 1 < 2 ^ 52
  · rw [if_pos (by omega), if_pos h1]; omega
  · by_cases h2 : x < 2 ^ 52
    · rw [if_pos h2, if_neg h1]
      have e : x + 1 = 2 ^ 52 := by omega
      rw [e]; simp; omega
    · rw [if_neg h2, if_neg h1]
      by_cases h3 : x % 2 ^ 52 + 1 < 2 ^ 52
      · have e1 : (x + 1) % 2 ^ 52 = x % 2 ^ 52 + 1 := by omega
        have e2 : (x + 1) / 2 ^ 52 = x / 2 ^ 52 := by omega
        rw [e1, e2]
        exact Nat.mul_lt_mul_of_pos_right (by omega) (Nat.two_pow_pos _)
      · have e1 : (x + 1) % 2 ^ 52 = 0 := by omega
        have e2 : (x + 1) / 2 ^ 52 - 1 = (x / 2 ^ 52 - 1) + 1 := by omega
        rw [e1, e2, Nat.pow_succ, Nat.add_zero]
        have hp : 0 < 2 ^ (x / 2 ^ 52 - 1) := Nat.two_pow_pos _
        have hm : 2 ^ 52 + x % 2 ^ 52 < 2 ^ 53 := by omega
        calc (2 ^ 52 + x % 2 ^ 52) * 2 ^ (x / 2 ^ 52 - 1) < 2 ^ 53 * 2 ^ (x / 2 ^ 52 - 1) := Nat.mul_lt_mul_of_pos_right hm hp
          _ = 2 ^ 52 * (2 ^ (x / 2 ^ 52 - 1) * 2) := by rw [show (2 : Nat) ^ 53 = 2 ^ 52 * 2 from by decide, Nat.mul_assoc, Nat.mul_comm 2]

theorem val_mono {x y : Nat} (h : x ≤ y) : val x ≤ val y := by
  induction y with
  | zero => obtain rfl : x = 0 := by omega
            exact Nat.le_refl _
  | succ y ih =>
    by_cases e : x = y + 1
    · rw [e]; exact Nat.le_refl _
    · exact Nat.le_trans (ih (by omega)) (Nat.le_of_lt (val_succ y))

theorem val_lt {x y : Nat} (h : x < y) : val x < val y := Nat.lt_of_lt_of_le (val_succ x) (val_mono h)

theorem le_of_val {x y : Nat} (h : val x ≤ val y) : x ≤ y := by
  rcases Nat.lt_or_ge y x with g | g
  · have := val_lt g; omega
  · exact g

/-- A word above the binade of 2 ^ (L + 52) is a whole number of 2 ^ L. -/
theorem val_dvd (y L : Nat) (h : 2 ^ (L + 52) ≤ val y) : ∃ k, val y = k * 2 ^ L := by
  unfold val at *
  split at h
  · rename_i h1
    have : 2 ^ 52 ≤ 2 ^ (L + 52) := Nat.pow_le_pow_right (by decide) (by omega)
    omega
  · rename_i h1
    rw [if_neg h1]
    have hm : 2 ^ 52 + y % 2 ^ 52 < 2 ^ 53 := by omega
    have hp : 0 < 2 ^ (y / 2 ^ 52 - 1) := Nat.two_pow_pos _
    have h2 : (2 ^ 52 + y % 2 ^ 52) * 2 ^ (y / 2 ^ 52 - 1) < 2 ^ (53 + (y / 2 ^ 52 - 1)) := by
      rw [Nat.pow_add]; exact Nat.mul_lt_mul_of_pos_right hm hp
    have h3 : L + 52 < 53 + (y / 2 ^ 52 - 1) := (Nat.pow_lt_pow_iff_right (by decide)).1 (Nat.lt_of_le_of_lt h h2)
    refine ⟨(2 ^ 52 + y % 2 ^ 52) * 2 ^ (y / 2 ^ 52 - 1 - L), ?_⟩
    rw [Nat.mul_assoc, ← Nat.pow_add, show y / 2 ^ 52 - 1 - L + L = y / 2 ^ 52 - 1 from by omega]

/-- The rung of 'kept' units of 2 ^ L. -/
theorem val_rung (L kept : Nat) (h : kept ≤ 2 ^ 53) (hL : L = 0 ∨ 2 ^ 52 ≤ kept) : val (L * 2 ^ 52 + kept) = kept * 2 ^ L := by
  unfold val
  by_cases h1 : kept < 2 ^ 52
  · have : L = 0 := by omega
    subst this
    rw [if_pos (by omega)]; simp
  · rw [if_neg (by omega)]
    by_cases h2 : kept = 2 ^ 53
    · subst h2
      have e1 : (L * 2 ^ 52 + 2 ^ 53) % 2 ^ 52 = 0 := by omega
      have e2 : (L * 2 ^ 52 + 2 ^ 53) / 2 ^ 52 - 1 = L + 1 := by omega
      rw [e1, e2, Nat.add_zero, Nat.pow_succ (n := 2) (m := L), show (2 : Nat) ^ 53 = 2 ^ 52 * 2 from by decide, Nat.mul_assoc, Nat.mul_comm 2]
    · have e1 : (L * 2 ^ 52 + kept) % 2 ^ 52 = kept - 2 ^ 52 := by omega
      have e2 : (L * 2 ^ 52 + kept) / 2 ^ 52 - 1 = L := by omega
      rw [e1, e2, show 2 ^ 52 + (kept - 2 ^ 52) = kept from by omega]

/-- The even cut: it keeps to the whole numbers between which the quotient lies. -/
theorem cut_even (n drop : Nat) (h : drop ≤ n.log2 + 2) (k : Nat) :
    (n ≤ k * 2 ^ drop → Toward.even.cut false n drop ≤ k) ∧ (k * 2 ^ drop ≤ n → k ≤ Toward.even.cut false n drop) := by
  have hp : 0 < 2 ^ drop := Nat.two_pow_pos _
  have hg : (1 <<< min drop (n.log2 + 2) : Nat) = 2 ^ drop := by rw [Nat.min_eq_left h, Nat.one_shiftLeft]
  have hd := Nat.div_add_mod n (2 ^ drop)
  have hm := Nat.mod_lt n hp
  unfold Toward.cut
  simp only [hg]
  generalize hq : n / 2 ^ drop = q at *
  generalize hr : n % 2 ^ drop = r at *
  generalize 2 ^ drop = G at *
  have hb : ∀ b : Bool, (b = true → 0 < r) → ((n ≤ k * G → q + b.toNat ≤ k) ∧ (k * G ≤ n → k ≤ q + b.toNat)) := by
    intro b hb
    constructor
    · intro h1
      rw [← hd] at h1
      cases b with
      | false =>
        simp only [Bool.toNat_false, Nat.add_zero]
        have h2 : G * q ≤ G * k := by rw [Nat.mul_comm G k]; omega
        exact Nat.le_of_mul_le_mul_left h2 hp
      | true =>
        have h0 := hb rfl
        simp only [Bool.toNat_true]
        have h2 : G * q < G * k := by rw [Nat.mul_comm G k]; omega
        exact Nat.lt_of_mul_lt_mul_left h2
    · intro h1
      rw [← hd] at h1
      have h2 : G * k < G * (q + 1) := by rw [Nat.mul_comm G k, Nat.mul_add, Nat.mul_one]; omega
      have := Nat.lt_of_mul_lt_mul_left h2
      omega
  refine hb _ ?_
  intro h1
  simp only [Bool.or_eq_true, decide_eq_true_eq, Bool.and_eq_true, beq_iff_eq] at h1
  omega

/-- WHAT 'nearest' GIVES of 'mag' units of 2 ^ P (P counted from the least place): some whole number of some 2 ^ L. -/
theorem nearest_core (mag P : Nat) (h0 : 0 < mag) (hP : P + mag.log2 ≤ 2000) :
    ∃ L kept, double.nearest false mag ((P : Int) - 1074) = L * 2 ^ 52 + kept ∧ L ≤ 1948 ∧ kept ≤ 2 ^ 53 ∧ (L = 0 ∨ (2 ^ 52 ≤ kept ∧ 2 ^ (L + 52) ≤ mag * 2 ^ P)) ∧ mag * 2 ^ P < 2 ^ (L + 53) ∧
      ∀ k, (mag * 2 ^ P ≤ k * 2 ^ L → kept ≤ k) ∧ (k * 2 ^ L ≤ mag * 2 ^ P → k ≤ kept) := by
  have hlo : 2 ^ mag.log2 ≤ mag := Nat.log2_self_le (by omega)
  have hhi : mag < 2 ^ (mag.log2 + 1) := Nat.lt_log2_self
  have hpP : 0 < 2 ^ P := Nat.two_pow_pos _
  have hXlo : 2 ^ (P + mag.log2) ≤ mag * 2 ^ P := by rw [Nat.pow_add, Nat.mul_comm]; exact Nat.mul_le_mul_right _ hlo
  have hXhi : mag * 2 ^ P < 2 ^ (P + mag.log2 + 1) := by
    rw [show P + mag.log2 + 1 = (mag.log2 + 1) + P from by omega, Nat.pow_add]; exact Nat.mul_lt_mul_of_pos_right hhi hpP
  obtain ⟨L, hLd⟩ : ∃ L, L = P + mag.log2 - 52 := ⟨_, rfl⟩
  have hlast : max ((P : Int) - 1074 + mag.log2 - (double.fractionBits : Nat)) double.leastPlace = (L : Int) - 1074 := by
    rw [least_eq]
    show max ((P : Int) - 1074 + mag.log2 - ((52 : Nat) : Int)) (-1074) = (L : Int) - 1074
    omega
  have hmain : ∃ kept, Toward.even.cut false (mag <<< ((P : Int) - 1074 - ((L : Int) - 1074)).toNat) (((L : Int) - 1074) - ((P : Int) - 1074)).toNat = kept ∧
      ∀ k, (mag * 2 ^ P ≤ k * 2 ^ L → kept ≤ k) ∧ (k * 2 ^ L ≤ mag * 2 ^ P → k ≤ kept) := by
    refine ⟨_, rfl, ?_⟩
    intro k
    by_cases hc : L ≤ P
    · have e1 : ((P : Int) - 1074 - ((L : Int) - 1074)).toNat = P - L := by omega
      have e2 : (((L : Int) - 1074) - ((P : Int) - 1074)).toNat = 0 := by omega
      rw [e1, e2, Nat.shiftLeft_eq]
      have c := cut_even (mag * 2 ^ (P - L)) 0 (by omega) k
      rw [Nat.pow_zero, Nat.mul_one] at c
      have e3 : mag * 2 ^ P = mag * 2 ^ (P - L) * 2 ^ L := by rw [Nat.mul_assoc, ← Nat.pow_add, show P - L + L = P from by omega]
      rw [e3]
      have hpL : 0 < 2 ^ L := Nat.two_pow_pos _
      exact ⟨fun h => c.1 (Nat.le_of_mul_le_mul_right h hpL), fun h => c.2 (Nat.le_of_mul_le_mul_right h hpL)⟩
    · have e1 : ((P : Int) - 1074 - ((L : Int) - 1074)).toNat = 0 := by omega
      have e2 : (((L : Int) - 1074) - ((P : Int) - 1074)).toNat = L - P := by omega
      rw [e1, e2, Nat.shiftLeft_zero]
      have c := cut_even mag (L - P) (by omega) k
      have e3 : ∀ k, k * 2 ^ L = k * 2 ^ (L - P) * 2 ^ P := by intro k; rw [Nat.mul_assoc, ← Nat.pow_add, show L - P + P = L from by omega]
      rw [e3]
      exact ⟨fun h => c.1 (Nat.le_of_mul_le_mul_right h hpP), fun h => c.2 (Nat.le_of_mul_le_mul_right h hpP)⟩
  obtain ⟨kept, hk, hkk⟩ := hmain
  have hX53 : mag * 2 ^ P < 2 ^ (L + 53) := Nat.lt_of_lt_of_le hXhi (Nat.pow_le_pow_right (by decide) (by omega))
  have hk53 : kept ≤ 2 ^ 53 := (hkk (2 ^ 53)).1 (by rw [← Nat.pow_add, Nat.add_comm 53 L]; omega)
  have hkL : L = 0 ∨ (2 ^ 52 ≤ kept ∧ 2 ^ (L + 52) ≤ mag * 2 ^ P) := by
    by_cases hz : L = 0
    · exact .inl hz
    · have hb : 2 ^ (L + 52) ≤ mag * 2 ^ P := by rw [show L + 52 = P + mag.log2 from by omega]; exact hXlo
      exact .inr ⟨(hkk (2 ^ 52)).2 (by rw [← Nat.pow_add, Nat.add_comm 52 L]; exact hb), hb⟩
  refine ⟨L, kept, ?_, by omega, hk53, hkL, hX53, hkk⟩
  unfold Format.nearest
  rw [if_neg (by omega)]
  simp only [hlast, hk]
  have e5 : ((L : Int) - 1074 - double.leastPlace).toNat = L := by rw [least_eq]; omega
  rw [e5, binade_eq, infRung_eq]
  have hmin : min (L * 2 ^ 52 + kept) inf = L * 2 ^ 52 + kept := by
    have hL : L ≤ 1948 := by omega
    refine Nat.min_eq_left (Nat.le_trans (Nat.add_le_add (Nat.mul_le_mul_right _ hL) hk53) ?_)
    decide
  rw [hmin]
  rfl

end Go.Proofs.Qxb6617808a.Dbl
