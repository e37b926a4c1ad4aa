/-
  THE PLAIN LAW: what the quotient of two whole numbers is held against. No Go in sight. 'T' stands for 2 ^ 1074 (one), 'U' for 2 ^ 1138: letters, so that nothing is multiplied out.
-/
import Derived.Test.Qxb6617808aOps
import Derived.Test.Qxb6617808aExact
namespace Go.Proofs.Qxb6617808a.Dbl
open Ieee

theorem pow_split (a b c : Nat) (h : c = a + b) : 2 ^ c = 2 ^ a * 2 ^ b := by rw [h, Nat.pow_add]
theorem pow_lt (a b c : Nat) (h : a + b < c) : 2 ^ a * 2 ^ b < 2 ^ c := by
  rw [← Nat.pow_add]; exact (Nat.pow_lt_pow_iff_right (a := 2) (by decide)).2 h

/-- The letters. -/
structure Ones (t s u k T U G : Nat) : Prop where
  ht : t = 1074
  hs : s = 1021
  hu : u = 1138
  hk : k = 1000
  t : T = 2 ^ t
  u : U = 2 ^ u
  g : G = 2 ^ s

theorem ones : ∃ t s u k T U G, Ones t s u k T U G := ⟨_, _, _, _, _, _, _, rfl, rfl, rfl, rfl, rfl, rfl, rfl⟩

theorem Ones.tpos {t s u k T U G : Nat} (o : Ones t s u k T U G) : 0 < T := by rw [o.t]; exact Nat.two_pow_pos t
theorem Ones.gpos {t s u k T U G : Nat} (o : Ones t s u k T U G) : 0 < G := by rw [o.g]; exact Nat.two_pow_pos s
theorem Ones.tg {t s u k T U G : Nat} (o : Ones t s u k T U G) : T = 9007199254740992 * G := by
  rw [o.t, o.g, pow_split 53 s t (by rw [o.ht, o.hs])]
theorem Ones.tu {t s u k T U G : Nat} (o : Ones t s u k T U G) : 9223372036854775808 * T < U := by
  have h := pow_lt 63 t u (by rw [o.ht, o.hu]; decide)
  rw [o.t, o.u]; exact h
theorem Ones.kg {t s u k T U G : Nat} (o : Ones t s u k T U G) : 2 ^ k * 2097152 = G := by
  rw [o.g, pow_split k 21 s (by rw [o.hk, o.hs])]

theorem fl_near {t s u k T U G : Nat} (o : Ones t s u k T U G) (a : Nat) (h0 : 0 < a) (h : a ≤ 9223372036854775808) : Near (fl a) (a * T) := by
  have hl : a.log2 < 64 := (Nat.log2_lt (by omega)).2 (by omega)
  have e := nearest_near a t h0 (by rw [o.ht]; omega)
  have z : ((t : Nat) : Int) - 1074 = 0 := by rw [o.ht]; rfl
  rw [z] at e
  rw [o.t]; exact e

theorem fl_exact {t s u k T U G : Nat} (o : Ones t s u k T U G) (a : Nat) (h0 : 0 < a) (h : a < 9007199254740992) : val (fl a) = a * T := by
  have e := nearest_exact a t h0 h (by rw [o.ht]; omega)
  have z : ((t : Nat) : Int) - 1074 = 0 := by rw [o.ht]; rfl
  rw [z] at e
  rw [o.t]; exact e

/-- The word of N units just below one. -/
def wd (N : Nat) : Nat := double.nearest false N (-53)
theorem wd_val {t s u k T U G : Nat} (o : Ones t s u k T U G) (N : Nat) (h0 : 0 < N) (h : N < 9007199254740992) : val (wd N) = N * G := by
  have e := nearest_exact N s h0 h (by rw [o.hs]; omega)
  have z : ((s : Nat) : Int) - 1074 = -53 := by rw [o.hs]; rfl
  rw [z] at e
  rw [o.g]; exact e

theorem fl_pow {t s u k T U G : Nat} (o : Ones t s u k T U G) (n : Nat) (h : n ≤ 63) : ∃ z, val z = 2 ^ n * T := by
  refine ⟨double.nearest false 1 (((t + n : Nat) : Int) - 1074), ?_⟩
  rw [nearest_exact 1 (t + n) (by decide) (by decide) (by rw [o.ht]; omega), Nat.one_mul, o.t]
  exact pow_split n t (t + n) (by omega)

theorem fl_low {t s u k T U G : Nat} (o : Ones t s u k T U G) (a : Nat) (h0 : 0 < a) (h : a ≤ 9223372036854775808) : min a 9007199254740992 * T ≤ val (fl a) := by
  by_cases c : a < 9007199254740992
  · rw [fl_exact o a h0 c, Nat.min_eq_left (by omega)]; exact Nat.le_refl _
  · rw [Nat.min_eq_right (by omega)]
    obtain ⟨z, hz⟩ := fl_pow o 53 (by decide)
    have h1 : val z ≤ a * T := by rw [hz]; exact Nat.mul_le_mul_right _ (by omega)
    have h2 := val_mono ((fl_near o a h0 h).down z h1)
    rw [hz] at h2
    exact h2

theorem fl_high {t s u k T U G : Nat} (o : Ones t s u k T U G) (a : Nat) (h0 : 0 < a) (h : a ≤ 9223372036854775808) : val (fl a) < U := by
  obtain ⟨z, hz⟩ := fl_pow o 63 (by decide)
  have h0' : a * T ≤ val z := by rw [hz]; exact Nat.mul_le_mul_right _ h
  have h1 := val_mono ((fl_near o a h0 h).up z h0')
  rw [hz] at h1
  exact Nat.lt_of_le_of_lt h1 o.tu

theorem fl_one {t s u k T U G : Nat} (o : Ones t s u k T U G) (a : Nat) (h0 : 0 < a) (h : a ≤ 9223372036854775808) : T ≤ val (fl a) := by
  refine Nat.le_trans ?_ (fl_low o a h0 h)
  exact Nat.le_mul_of_pos_left _ (by omega)

theorem div_T {t s u k T U G : Nat} (o : Ones t s u k T U G) (x y : Nat) (hx : x < inf) (hy : y < inf) (lx : T ≤ val x) (ux : val x < U) (ly : T ≤ val y) (uy : val y < U) :
    ∃ r, double.div x y = some r ∧ r < inf ∧ ∀ z, (val x * T ≤ val z * val y → r ≤ z) ∧ (val z * val y ≤ val x * T → z ≤ r) := by
  obtain ⟨h1, h2, h3, h4, rfl, rfl, rfl⟩ := o
  exact div_near t u x y h1 h3 hx hy lx ux ly uy

theorem mul_T {t s u k T U G : Nat} (o : Ones t s u k T U G) (x y : Nat) (hx : x < inf) (hy : y < inf) (lx : 2 ^ k ≤ val x) (ux : val x < U) (ly : 2 ^ k ≤ val y) (uy : val y < U) :
    ∃ r X, double.mul x y = some r ∧ Near r X ∧ X * T = val x * val y := by
  obtain ⟨h1, h2, h3, h4, rfl, rfl, rfl⟩ := o
  exact mul_near t u k x y h1 h3 h4 hx hy lx ux ly uy

theorem sub_T {t s u k T U G : Nat} (o : Ones t s u k T U G) (x y : Nat) (hx : x < inf) (hy : y < inf) (ux : val x < U) (hlt : val y < val x) : ∃ r, double.sub x y = some r ∧ Near r (val x - val y) := by
  obtain ⟨h1, h2, h3, h4, rfl, rfl, rfl⟩ := o
  exact sub_near u x y h3 hx hy ux hlt

theorem arith1 (a W V d A Vz : Nat) (e : Vz * W = V * A) (hW : 0 < W) (h : a * W ≤ V * d) : a * A * A ≤ Vz * (d * A) := by
  refine Nat.le_of_mul_le_mul_right (c := W) ?_ hW
  calc a * A * A * W = (a * W) * A * A := by rw [Nat.mul_right_comm (a * A) A W, Nat.mul_right_comm a A W]
    _ ≤ (V * d) * A * A := Nat.mul_le_mul_right _ (Nat.mul_le_mul_right _ h)
    _ = V * A * (d * A) := by rw [Nat.mul_mul_mul_comm, ← Nat.mul_assoc]
    _ = Vz * W * (d * A) := by rw [e]
    _ = Vz * (d * A) * W := Nat.mul_right_comm ..

theorem arith2 (b W V d A Vz X : Nat) (e : Vz * W = V * A) (hW : 0 < W) (hl : b * A ≤ X) (h : V * d ≤ b * W) : Vz * (d * A) ≤ X * A := by
  refine Nat.le_of_mul_le_mul_right (c := W) ?_ hW
  calc Vz * (d * A) * W = Vz * W * (d * A) := Nat.mul_right_comm ..
    _ = V * A * (d * A) := by rw [e]
    _ = (V * d) * A * A := by rw [Nat.mul_mul_mul_comm, ← Nat.mul_assoc]
    _ ≤ (b * W) * A * A := Nat.mul_le_mul_right _ (Nat.mul_le_mul_right _ h)
    _ = b * A * A * W := by rw [Nat.mul_right_comm (b * A) A W, Nat.mul_right_comm b A W]
    _ ≤ X * A * W := Nat.mul_le_mul_right _ (Nat.mul_le_mul_right _ hl)

/-- WHAT THE QUOTIENT OF TWO WHOLE NUMBERS IS HELD AGAINST: a word that stands for V / W. -/
theorem quo_ints {t s u k T U G : Nat} (o : Ones t s u k T U G) (a d : Nat) (a0 : 0 < a) (ha : a ≤ 9223372036854775808) (d0 : 0 < d) (hd : d < 9007199254740992) :
    ∃ r, double.div (fl a) (fl d) = some r ∧ r < inf ∧
      (∀ z V W, val z * W = V * T → 0 < W → a < 9007199254740992 → a * W ≤ V * d → r ≤ z) ∧
      (∀ z V W, val z * W = V * T → 0 < W → V * d ≤ min a 9007199254740992 * W → z ≤ r) := by
  have d63 : d ≤ 9223372036854775808 := by omega
  obtain ⟨r, hr, hf, hz⟩ := div_T o (fl a) (fl d) (fl_near o a a0 ha).fin (fl_near o d d0 d63).fin (fl_one o a a0 ha) (fl_high o a a0 ha) (fl_one o d d0 d63) (fl_high o d d0 d63)
  refine ⟨r, hr, hf, fun z V W e hW h53 h => (hz z).1 ?_, fun z V W e hW h => (hz z).2 ?_⟩
  · rw [fl_exact o a a0 h53, fl_exact o d d0 hd]
    exact arith1 a W V d T (val z) e hW h
  · rw [fl_exact o d d0 hd]
    exact arith2 _ W V d T (val z) (val (fl a)) e hW (fl_low o a a0 ha) h

/-! ### The constants -/
theorem val_of (x M E : Nat) (h : ¬ x < 2 ^ 52) (h1 : 2 ^ 52 + x % 2 ^ 52 = M) (h2 : x / 2 ^ 52 - 1 = E) : val x = M * 2 ^ E := by
  unfold val; rw [if_neg h, h1, h2]
theorem val_of8 (x M E s : Nat) (h : ¬ x < 2 ^ 52) (h1 : 2 ^ 52 + x % 2 ^ 52 = M) (h2 : x / 2 ^ 52 - 1 = E) (h3 : s = E + 3) : val x * 8 = M * 2 ^ s := by
  rw [val_of x M E h h1 h2, h3, Nat.pow_add, Nat.mul_assoc]
theorem c99_val {t s u k T U G : Nat} (o : Ones t s u k T U G) : val c99 = 8917127262193582 * G := by
  rw [o.g]; exact val_of c99 _ s (by decide) (by decide) (by rw [o.hs]; decide)
theorem c99_next {t s u k T U G : Nat} (o : Ones t s u k T U G) : val (c99 + 1) = 8917127262193583 * G := by
  rw [o.g]; exact val_of (c99 + 1) _ s (by decide) (by decide) (by rw [o.hs]; decide)
theorem c89_val {t s u k T U G : Nat} (o : Ones t s u k T U G) : val c89 = 8016407336719483 * G := by
  rw [o.g]; exact val_of c89 _ s (by decide) (by decide) (by rw [o.hs]; decide)
theorem c10_val {t s u k T U G : Nat} (o : Ones t s u k T U G) : val c10 * 8 = 7205759403792794 * G := by
  rw [o.g]; exact val_of8 c10 _ 1018 s (by decide) (by decide) (by decide) (by rw [o.hs])
theorem c10_next {t s u k T U G : Nat} (o : Ones t s u k T U G) : val (c10 + 1) * 8 = 7205759403792795 * G := by
  rw [o.g]; exact val_of8 (c10 + 1) _ 1018 s (by decide) (by decide) (by decide) (by rw [o.hs])
theorem c36_eq : fl 3600000 = c36 := by decide +kernel
theorem c99_fin : c99 < inf := by decide
theorem c10_fin : c10 < inf := by decide
theorem c89_fin : c89 < inf := by decide

end Go.Proofs.Qxb6617808a.Dbl
