import Derived.Test.Qxb6617844aEdits
import Derived.Test.Qxb6617844aLaws
import Derived.Test.Qxb6617844aMove
namespace Go.Proofs.Qxb6617844a
open Go.RowKit

theorem zzedits_any (a0 b0 : Option Addr) (n m ca cb : Nat) (fa fb : Nat → Int) (w : World) (hn : n ≤ 5000) (hm : m ≤ 5000) (h1 : n ≤ m + 2) (h2 : m ≤ n + 2)
    (ha : Sl w a0 n fa) (hb : Sl w b0 m fb) :
    Calls Try.prog 9 #[.slice a0 n ca, .slice b0 m cb] w fun e w' =>
      e = .returned (.int .i64 (min (Osa.D (fun i j => fa i == fb j) n m) 3 : Nat)) ∧ Below w.heap.size w w' := by
  go_enter Try.func9, Try.ntmps9
  go_wp2_with fail
  refine (edits_any a0 b0 n m ca cb fa fb w hn hm h1 h2 ha hb).mono ?_
  rintro e w' ⟨rfl, hbel⟩
  go_wp2
  go_ret
  exact ⟨rfl, hbel⟩

/-- A new row of n zero runes. -/
def zr32 (n : Nat) : Obj := .cells (madeCells (Value.int .i32 0).cells n) 21

theorem info21 : (Try.prog.info? 21).map (fun i => (i.zero, i.size, i.bytes)) = some (some (.int .i32 0), 1, 4) := by kernel_rfl
theorem size21 : (Try.prog.info? 21).map (·.size) = some 1 := by kernel_rfl

theorem make22 (l c : Nat) (hl : l ≤ c) (hc : c ≤ 5000) (w : World) :
    (Instr.makeSlice 22 (.int .i64 (l : Int)) (.int .i64 (c : Int))).run Try.prog w = .ok (.slice (some ⟨w.heap.size, 0, none⟩) l c) (w.alloc (zr32 c)) := by
  obtain ⟨i0, hi, hz0, hz1, hz2⟩ := info_parts info21
  have := run_make (P := Try.prog) w 22 21 i0 (.int .i32 0) Try.underlying22 hi hz0 .i64 .i64 (l : Int) (c : Int) (by omega) (by omega) (by rw [hz2]; omega) (by omega)
  rw [this, hz1, Nat.mul_one, Int.toNat_natCast, Int.toNat_natCast]
  rfl

theorem zr32_cell (w : World) (n j : Nat) (h : j < n) : (w.alloc (zr32 n)).cell? ⟨w.heap.size, j, none⟩ = some (.int .i32 0) := by
  rw [zr32, World.cell?_alloc_at _ _ _ _ rfl, Array.getElem?_eq_getElem (by rw [size_madeCells]; omega)]
  simp [madeCells, Value.cells, Nat.mod_one]
theorem zr32_frozen (w : World) (n j : Nat) : (w.alloc (zr32 n)).frozen? ⟨w.heap.size, j, none⟩ = false := by
  rw [zr32, World.frozen?_alloc_at _ _ _ _ rfl]

end Go.Proofs.Qxb6617844a
