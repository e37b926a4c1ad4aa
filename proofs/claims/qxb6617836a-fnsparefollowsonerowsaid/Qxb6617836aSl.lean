import Derived.Test.Qxb6617836aRows
import Derived.Test.Qxb6617836aMaps
import Derived.Test.Qxb6617836aMove
import Derived.Test.Qxb6617836aPlain
import Derived.BigQuiet
import Derived.Deep.QuietTactic
import Derived.Deep.DeepCutAuto
namespace Go.Proofs.Qxb6617836a
open Go.RowKit

/-- A slice of integers of kind q: its first n elements are f 0, f 1, .. -/
def Sl (q : IntKind) (w : World) (a : Option Addr) (n : Nat) (f : Nat → Int) : Prop :=
  0 < n → ∃ b o, a = some ⟨b, o, none⟩ ∧ b < w.heap.size ∧ ∀ j, j < n → w.cell? ⟨b, o + j, none⟩ = some (.int q (f j))

theorem Sl.below {q : IntKind} {w w' : World} {a : Option Addr} {n : Nat} {f : Nat → Int} (h : Sl q w a n f) (hb : Below w.heap.size w w') : Sl q w' a n f := by
  intro hn
  obtain ⟨b, o, h1, h2, h3⟩ := h hn
  exact ⟨b, o, h1, Nat.lt_of_lt_of_le h2 hb.size, fun j hj => (hb.cell (p := ⟨b, o + j, none⟩) h2).trans (h3 j hj)⟩

/-- The row that is being filled: its first k elements are f 0, f 1, ..; it has room for cap. -/
structure Bw (q : IntKind) (wd : World) (N k cap : Nat) (f : Nat → Int) : Prop where
  lt : N < wd.heap.size
  part : ∀ j, j < k → wd.cell? ⟨N, j, none⟩ = some (.int q (f j))
  room : ∀ j, j < cap → ∃ v, wd.cell? ⟨N, j, none⟩ = some v
  frozen : ∀ j, wd.frozen? ⟨N, j, none⟩ = false

theorem Bw.sl {q : IntKind} {wd : World} {N k cap : Nat} {f : Nat → Int} (h : Bw q wd N k cap f) : Sl q wd (some ⟨N, 0, none⟩) k f :=
  fun _ => ⟨N, 0, rfl, h.lt, fun j hj => by rw [Nat.zero_add]; exact h.part j hj⟩

theorem Bw.put {q : IntKind} {wd : World} {N k cap : Nat} {f : Nat → Int} (h : Bw q wd N k cap f) (hk : k < cap) : Bw q (wd.setCell ⟨N, k, none⟩ (.int q (f k))) N (k + 1) cap f := by
  obtain ⟨u, hu⟩ := h.room k hk
  refine ⟨by simp; exact h.lt, fun j hj => ?_, fun j hj => ?_, fun j => by rw [World.frozen?_setCell]; exact h.frozen j⟩
  · by_cases e : j = k
    · subst e; exact World.cell?_setCell_same _ _ _ hu
    · rw [World.cell?_setCell_other _ _ _ _ (by intro h; cases h; exact e rfl)]; exact h.part j (by omega)
  · by_cases e : j = k
    · subst e; exact ⟨_, World.cell?_setCell_same _ _ _ hu⟩
    · rw [World.cell?_setCell_other _ _ _ _ (by intro h; cases h; exact e rfl)]; exact h.room j hj

/-- A store anywhere in the row. -/
theorem Bw.set {q : IntKind} {wd : World} {N k cap : Nat} {f : Nat → Int} (h : Bw q wd N k cap f) (p : Nat) (hp : p < k) (v : Int) : Bw q (wd.setCell ⟨N, p, none⟩ (.int q v)) N k cap (fun j => if j = p then v else f j) := by
  refine ⟨by simp; exact h.lt, fun j hj => ?_, fun j hj => ?_, fun j => by rw [World.frozen?_setCell]; exact h.frozen j⟩
  · by_cases e : j = p
    · subst e; rw [if_pos rfl]; exact World.cell?_setCell_same _ _ _ (h.part j hj)
    · rw [if_neg e, World.cell?_setCell_other _ _ _ _ (by intro h; cases h; exact e rfl)]; exact h.part j hj
  · by_cases e : j = p
    · subst e; exact ⟨_, World.cell?_setCell_same _ _ _ (h.part j hp)⟩
    · rw [World.cell?_setCell_other _ _ _ _ (by intro h; cases h; exact e rfl)]; exact h.room j hj

theorem Bw.congr {q : IntKind} {wd : World} {N k cap : Nat} {f g : Nat → Int} (h : Bw q wd N k cap f) (e : ∀ j, j < k → f j = g j) : Bw q wd N k cap g :=
  ⟨h.lt, fun j hj => by rw [← e j hj]; exact h.part j hj, h.room, h.frozen⟩

/-- A new row of n zeros of kind q. -/
def zr (q : IntKind) (t : TypeId) (n : Nat) : Obj := .cells (madeCells (Value.int q 0).cells n) t

theorem zr_cell (q : IntKind) (t : TypeId) (w : World) (n j : Nat) (h : j < n) : (w.alloc (zr q t n)).cell? ⟨w.heap.size, j, none⟩ = some (.int q 0) := by
  rw [zr, World.cell?_alloc_at _ _ _ _ rfl, Array.getElem?_eq_getElem (by rw [size_madeCells]; omega)]
  simp [madeCells, Value.cells, Nat.mod_one]
theorem zr_frozen (q : IntKind) (t : TypeId) (w : World) (n j : Nat) : (w.alloc (zr q t n)).frozen? ⟨w.heap.size, j, none⟩ = false := by
  rw [zr, World.frozen?_alloc_at _ _ _ _ rfl]
theorem Bw.start (q : IntKind) (t : TypeId) (w : World) (cap : Nat) (f : Nat → Int) : Bw q (w.alloc (zr q t cap)) w.heap.size 0 cap f :=
  ⟨by simp, fun j hj => by omega, fun j hj => ⟨_, zr_cell q t w cap j hj⟩, fun j => zr_frozen q t w cap j⟩

theorem make_run (sT eT : TypeId) (q : IntKind) (bytes : Nat) (hu : Try.prog.underlying sT = some (.slice eT)) (hi : (Try.prog.info? eT).map (fun i => (i.zero, i.size, i.bytes)) = some (some (.int q 0), 1, bytes)) (hb : bytes ≤ 8)
    (l c : Nat) (hl : l ≤ c) (hc : c ≤ 70000) (w : World) :
    (Instr.makeSlice sT (.int .i64 (l : Int)) (.int .i64 (c : Int))).run Try.prog w = .ok (.slice (some ⟨w.heap.size, 0, none⟩) l c) (w.alloc (zr q eT c)) := by
  obtain ⟨i0, hi, hz0, hz1, hz2⟩ := info_parts hi
  have hbc : bytes * c ≤ 8 * 70000 := Nat.mul_le_mul hb hc
  have := run_make (P := Try.prog) w sT eT i0 (.int q 0) hu hi hz0 .i64 .i64 (l : Int) (c : Int) (by omega) (by omega) (by rw [hz2]; omega) (by omega)
  rw [this, hz1, Nat.mul_one, Int.toNat_natCast, Int.toNat_natCast]
  rfl

theorem info24 : (Try.prog.info? 24).map (fun i => (i.zero, i.size, i.bytes)) = some (some (.int .u32 0), 1, 4) := by kernel_rfl
theorem info62 : (Try.prog.info? 62).map (fun i => (i.zero, i.size, i.bytes)) = some (some (.int .u32 0), 1, 4) := by kernel_rfl
theorem info5 : (Try.prog.info? 5).map (fun i => (i.zero, i.size, i.bytes)) = some (some (.int .u8 0), 1, 1) := by kernel_rfl
theorem info50 : (Try.prog.info? 50).map (fun i => (i.zero, i.size, i.bytes)) = some (some (.int .u8 0), 1, 1) := by kernel_rfl
theorem zero4 (w : World) : (zeroValue 4).run Try.prog w = .ok (.bool false) w := by kernel_rfl

theorem alloc_bel (w : World) (o : Obj) : Below w.heap.size w (w.alloc o) := (Below.refl _ _).alloc (Nat.le_refl _) _

/-- A block of maps written anew. -/
def setMap (w : World) (r : Nat) (o : Obj) : World := { w with heap := w.heap.setIfInBounds r o }
theorem setMap_size (w : World) (r : Nat) (o : Obj) : (setMap w r o).heap.size = w.heap.size := by simp [setMap]
theorem setMap_below {B : Nat} {w0 w : World} (h : Below B w0 w) (r : Nat) (o : Obj) (hr : B ≤ r) : Below B w0 (setMap w r o) :=
  h.trans ⟨rfl, rfl, rfl, by rw [setMap_size]; exact Nat.le_refl _, fun k hk => by simp only [setMap]; rw [Array.getElem?_setIfInBounds_ne (by omega)]⟩
theorem setMap_at (w : World) (r : Nat) (o : Obj) (hr : r < w.heap.size) : (setMap w r o).heap[r]? = some o := by
  simp [setMap, hr]
theorem setMap_other (w : World) (r b : Nat) (o : Obj) (hr : b ≠ r) : (setMap w r o).heap[b]? = w.heap[b]? := by
  simp only [setMap]; rw [Array.getElem?_setIfInBounds_ne (by omega)]
end Go.Proofs.Qxb6617836a
