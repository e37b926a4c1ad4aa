import Derived.Test.Qxb6617836aSl
namespace Go.Proofs.Qxb6617836a
open Go.RowKit

/-! The short ways: whatever the guards refuse answers true at once. -/
theorem no_long (first width k off sym : Int) (a0 : Option Addr) (n c0 : Nat) (mv : Value) (w : World) (h : decide ((65536 : Int) < (n : Int)) = true) :
    Calls Try.prog 4 #[.int .u8 first, .int .i64 width, .slice a0 n c0, mv, .int .u8 k, .int .i64 off, .int .u32 sym] w fun e w' => e = .returned (.bool true) ∧ Below w.heap.size w w' := by
  go_enter Try.func4, Try.ntmps4
  go_wp2
  go_ret
  exact ⟨rfl, Below.refl _ _⟩

theorem no_width (first width k off sym : Int) (a0 : Option Addr) (n c0 : Nat) (mv : Value) (w : World) (t1 : decide ((65536 : Int) < (n : Int)) = false) (h : decide (width < 1) = true) :
    Calls Try.prog 4 #[.int .u8 first, .int .i64 width, .slice a0 n c0, mv, .int .u8 k, .int .i64 off, .int .u32 sym] w fun e w' => e = .returned (.bool true) ∧ Below w.heap.size w w' := by
  go_enter Try.func4, Try.ntmps4
  go_wp2
  go_ret
  exact ⟨rfl, Below.refl _ _⟩

theorem no_room (first width c : Nat) (k off sym : Int) (a0 : Option Addr) (n c0 : Nat) (mv : Value) (w : World) (hn : n ≤ 65536) (hw : 1 ≤ width) (hf : first < 256) (hc : c = n / width) (h : 256 < first + c) :
    Calls Try.prog 4 #[.int .u8 (first : Int), .int .i64 (width : Int), .slice a0 n c0, mv, .int .u8 k, .int .i64 off, .int .u32 sym] w fun e w' => e = .returned (.bool true) ∧ Below w.heap.size w w' := by
  have hcn : c ≤ 65536 := by rw [hc]; exact Nat.le_trans (Nat.div_le_self n width) hn
  have hdiv : ((n : Int).tdiv (width : Int)) = (c : Int) := by rw [hc]; rfl
  have t1 : decide ((65536 : Int) < (n : Int)) = false := by rw [decide_eq_false_iff_not]; omega
  have t2 : decide ((width : Int) < 1) = false := by rw [decide_eq_false_iff_not]; omega
  have t3 : decide ((256 : Int) < (first : Int) + (c : Int)) = true := by rw [decide_eq_true_eq]; omega
  clear hc
  go_enter Try.func4, Try.ntmps4
  go_wp2
  go_ret
  exact ⟨rfl, Below.refl _ _⟩

theorem no_low (first width c : Nat) (k off sym : Int) (a0 : Option Addr) (n c0 : Nat) (mv : Value) (w : World) (hn : n ≤ 65536) (hw : 1 ≤ width) (hc : c = n / width) (hf : first + c ≤ 256) (h : k < first) (h0 : 0 ≤ k) :
    Calls Try.prog 4 #[.int .u8 (first : Int), .int .i64 (width : Int), .slice a0 n c0, mv, .int .u8 k, .int .i64 off, .int .u32 sym] w fun e w' => e = .returned (.bool true) ∧ Below w.heap.size w w' := by
  have hdiv : ((n : Int).tdiv (width : Int)) = (c : Int) := by rw [hc]; rfl
  have t1 : decide ((65536 : Int) < (n : Int)) = false := by rw [decide_eq_false_iff_not]; omega
  have t2 : decide ((width : Int) < 1) = false := by rw [decide_eq_false_iff_not]; omega
  have t3 : decide ((256 : Int) < (first : Int) + (c : Int)) = false := by rw [decide_eq_false_iff_not]; omega
  have t4 : decide (k < (first : Int)) = true := by rw [decide_eq_true_eq]; omega
  clear hc
  go_enter Try.func4, Try.ntmps4
  go_wp2
  go_ret
  exact ⟨rfl, Below.refl _ _⟩

theorem no_high (first width c : Nat) (k off sym : Int) (a0 : Option Addr) (n c0 : Nat) (mv : Value) (w : World) (hn : n ≤ 65536) (hw : 1 ≤ width) (hc : c = n / width) (hf : first + c ≤ 256) (h : (first : Int) + c ≤ k) (h0 : k < 256) :
    Calls Try.prog 4 #[.int .u8 (first : Int), .int .i64 (width : Int), .slice a0 n c0, mv, .int .u8 k, .int .i64 off, .int .u32 sym] w fun e w' => e = .returned (.bool true) ∧ Below w.heap.size w w' := by
  have hdiv : ((n : Int).tdiv (width : Int)) = (c : Int) := by rw [hc]; rfl
  have t1 : decide ((65536 : Int) < (n : Int)) = false := by rw [decide_eq_false_iff_not]; omega
  have t2 : decide ((width : Int) < 1) = false := by rw [decide_eq_false_iff_not]; omega
  have t3 : decide ((256 : Int) < (first : Int) + (c : Int)) = false := by rw [decide_eq_false_iff_not]; omega
  have t4 : decide (k < (first : Int)) = false := by rw [decide_eq_false_iff_not]; omega
  have t5 : decide ((first : Int) + (c : Int) ≤ k) = true := by rw [decide_eq_true_eq]; omega
  have hk0 : 0 ≤ k := by omega
  clear hc
  go_enter Try.func4, Try.ntmps4
  go_wp2
  go_ret
  exact ⟨rfl, Below.refl _ _⟩

theorem no_neg (first width c k : Nat) (off sym : Int) (a0 : Option Addr) (n c0 : Nat) (mv : Value) (w : World) (hn : n ≤ 65536) (hw : 1 ≤ width) (hc : c = n / width) (hf : first + c ≤ 256) (hk1 : first ≤ k) (hk2 : k < first + c) (h : off < 0) :
    Calls Try.prog 4 #[.int .u8 (first : Int), .int .i64 (width : Int), .slice a0 n c0, mv, .int .u8 (k : Int), .int .i64 off, .int .u32 sym] w fun e w' => e = .returned (.bool true) ∧ Below w.heap.size w w' := by
  have hdiv : ((n : Int).tdiv (width : Int)) = (c : Int) := by rw [hc]; rfl
  have t1 : decide ((65536 : Int) < (n : Int)) = false := by rw [decide_eq_false_iff_not]; omega
  have t2 : decide ((width : Int) < 1) = false := by rw [decide_eq_false_iff_not]; omega
  have t3 : decide ((256 : Int) < (first : Int) + (c : Int)) = false := by rw [decide_eq_false_iff_not]; omega
  have t4 : decide ((k : Int) < (first : Int)) = false := by rw [decide_eq_false_iff_not]; omega
  have t5 : decide ((first : Int) + (c : Int) ≤ (k : Int)) = false := by rw [decide_eq_false_iff_not]; omega
  have t6 : decide (off < 0) = true := by rw [decide_eq_true_eq]; omega
  clear hc
  go_enter Try.func4, Try.ntmps4
  go_wp2
  go_ret
  exact ⟨rfl, Below.refl _ _⟩

theorem no_off (first width c k : Nat) (off sym : Int) (a0 : Option Addr) (n c0 : Nat) (mv : Value) (w : World) (hn : n ≤ 65536) (hw : 1 ≤ width) (hc : c = n / width) (hf : first + c ≤ 256) (hk1 : first ≤ k) (hk2 : k < first + c) (h : (width : Int) ≤ off) :
    Calls Try.prog 4 #[.int .u8 (first : Int), .int .i64 (width : Int), .slice a0 n c0, mv, .int .u8 (k : Int), .int .i64 off, .int .u32 sym] w fun e w' => e = .returned (.bool true) ∧ Below w.heap.size w w' := by
  have hdiv : ((n : Int).tdiv (width : Int)) = (c : Int) := by rw [hc]; rfl
  have t1 : decide ((65536 : Int) < (n : Int)) = false := by rw [decide_eq_false_iff_not]; omega
  have t2 : decide ((width : Int) < 1) = false := by rw [decide_eq_false_iff_not]; omega
  have t3 : decide ((256 : Int) < (first : Int) + (c : Int)) = false := by rw [decide_eq_false_iff_not]; omega
  have t4 : decide ((k : Int) < (first : Int)) = false := by rw [decide_eq_false_iff_not]; omega
  have t5 : decide ((first : Int) + (c : Int) ≤ (k : Int)) = false := by rw [decide_eq_false_iff_not]; omega
  have t6 : decide (off < 0) = false := by rw [decide_eq_false_iff_not]; omega
  have t7 : decide ((width : Int) ≤ off) = true := by rw [decide_eq_true_eq]; omega
  clear hc
  go_enter Try.func4, Try.ntmps4
  go_wp2
  go_ret
  exact ⟨rfl, Below.refl _ _⟩

theorem no_sym (first width c k off : Nat) (sym : Int) (a0 : Option Addr) (n c0 : Nat) (mv : Value) (w : World) (hn : n ≤ 65536) (hw : 1 ≤ width) (hc : c = n / width) (hf : first + c ≤ 256) (hk1 : first ≤ k) (hk2 : k < first + c) (ho : off < width) (hs : sym = 0) :
    Calls Try.prog 4 #[.int .u8 (first : Int), .int .i64 (width : Int), .slice a0 n c0, mv, .int .u8 (k : Int), .int .i64 (off : Int), .int .u32 sym] w fun e w' => e = .returned (.bool true) ∧ Below w.heap.size w w' := by
  have hdiv : ((n : Int).tdiv (width : Int)) = (c : Int) := by rw [hc]; rfl
  have t1 : decide ((65536 : Int) < (n : Int)) = false := by rw [decide_eq_false_iff_not]; omega
  have t2 : decide ((width : Int) < 1) = false := by rw [decide_eq_false_iff_not]; omega
  have t3 : decide ((256 : Int) < (first : Int) + (c : Int)) = false := by rw [decide_eq_false_iff_not]; omega
  have t4 : decide ((k : Int) < (first : Int)) = false := by rw [decide_eq_false_iff_not]; omega
  have t5 : decide ((first : Int) + (c : Int) ≤ (k : Int)) = false := by rw [decide_eq_false_iff_not]; omega
  have t6 : decide ((off : Int) < 0) = false := by rw [decide_eq_false_iff_not]; omega
  have t7 : decide ((width : Int) ≤ (off : Int)) = false := by rw [decide_eq_false_iff_not]; omega
  subst hs
  clear hc
  go_enter Try.func4, Try.ntmps4
  go_wp2
  go_ret
  exact ⟨rfl, Below.refl _ _⟩
end Go.Proofs.Qxb6617836a
