import Derived.Test.Qxb6617836aKeymap
namespace Go.Proofs.Qxb6617836a
open Go.RowKit

/-- The keymap as a value. -/
abbrev kmV (first width : Nat) (a : Option Addr) (n : Nat) (mo : Option Nat) : Value := .agg #[.int .u8 (first : Int), .int .i64 (width : Int), .slice a n n, .map mo, .slice none 0 0]

set_option maxRecDepth 100000 in
set_option maxHeartbeats 4000000 in
theorem row_any (first width i n p q : Nat) (a0 : Option Addr) (fs : Nat → Int) (mo : Option Nat) (w : World)
    (ha : Sl .u32 w a0 n fs) (hn : n ≤ 65536) (hw : 1 ≤ width) (hf : first + i < 256) (hp : p = i * width) (hq : q = p + width) (hpn : q ≤ n) (kc : Int) (hkc : (first : Int) + i = kc) :
    Calls Try.prog 22 #[kmV first width a0 n mo, .int .u8 kc] w fun e w' =>
      ∃ a2 c2, e = .returned (.slice a2 width c2) ∧ Sl .u32 w' a2 width (fun t => fs (p + t)) ∧ Below w.heap.size w w' := by
  have hm : (i : Int) * (width : Int) = (p : Int) := by rw [hp]; simp
  have hq' : (p : Int) + (width : Int) = (q : Int) := by omega
  have hs : kc - (first : Int) = (i : Int) := by omega
  have hk0 : 0 ≤ kc := by omega
  have hk1 : kc < 256 := by omega
  obtain ⟨b, o, rfl, hb, hc⟩ := ha (by omega)
  have HC : Hid (∀ j, j < n → w.cell? ⟨b, o + j, none⟩ = some (.int .u32 (fs j))) := hc
  have HQ : Hid (q = p + width) := hq
  have hpq : p < q := by omega
  have hne : ¬ n = p := by omega
  have hmx : (p : Int) ≤ max (q : Int) 0 := by omega
  have hl : q - p = width := by omega
  clear hc hp hq ha hkc
  go_enter Try.func22, Try.ntmps22
  go_wp2
  refine bodyPost_ret (v := .slice (some ⟨b, o + p, none⟩) width (n - p)) (by simp [results, Try.results22, go_sem]) rfl ⟨_, _, rfl, ?_, alloc_bel _ _⟩
  intro _
  refine ⟨b, o + p, rfl, by rw [World.size_alloc]; omega, fun j hj => ?_⟩
  have := HQ.out
  have hcj := HC.out (p + j) (by omega)
  rw [← Nat.add_assoc] at hcj
  exact ((alloc_bel w _).cell (p := ⟨b, o + p + j, none⟩) hb).trans hcj
end Go.Proofs.Qxb6617836a
