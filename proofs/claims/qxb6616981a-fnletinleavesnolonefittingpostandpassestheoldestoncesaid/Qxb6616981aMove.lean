/-
  'copy', over any program: what they leave, said of cells.
-/
import Derived.WalkKit
import Derived.WalkSpells
import Derived.WalkLawsBesides
namespace Go.Proofs.Qxb6616981a
open Go.RowKit

/-- w' is w with the n values f 0, f 1, .. laid into block g from place o on. -/
structure Moved (w w' : World) (g o n : Nat) (f : Nat → Value) : Prop where
  os : w'.os = w.os
  tape : w'.tape = w.tape
  output : w'.output = w.output
  size : w'.heap.size = w.heap.size
  other : ∀ b, b ≠ g → w'.heap[b]? = w.heap[b]?
  inn : ∀ j, j < n → w'.cell? ⟨g, o + j, none⟩ = some (f j)
  out : ∀ j, (j < o ∨ o + n ≤ j) → w'.cell? ⟨g, j, none⟩ = w.cell? ⟨g, j, none⟩
  frozen : ∀ x, w'.frozen? x = w.frozen? x

theorem Moved.below {w0 w w' : World} {g o n B : Nat} {f : Nat → Value} (h : Moved w w' g o n f) (hb : Below B w0 w) (hB : B ≤ g) : Below B w0 w' :=
  hb.trans ⟨h.os, h.tape, h.output, by rw [h.size]; exact Nat.le_refl _, fun k hk => h.other k (by omega)⟩

theorem Moved.cell {w w' : World} {g o n : Nat} {f : Nat → Value} (h : Moved w w' g o n f) {x : Addr} (hx : x.block ≠ g) : w'.cell? x = w.cell? x :=
  World.cell?_of_block (w := w) (h.other x.block hx)

theorem heap_setCells (g : Nat) : ∀ (vs : List Value) (o : Nat) (w : World) (b : Nat), b ≠ g → (w.setCells g o vs).heap[b]? = w.heap[b]?
  | [], _, _, _, _ => rfl
  | v :: r, o, w, b, hb => by
    rw [World.setCells, heap_setCells g r (o + 1) _ b hb, Below.heap_setCell _ _ _ _ (by exact hb)]

theorem size_setCells (g : Nat) : ∀ (vs : List Value) (o : Nat) (w : World), (w.setCells g o vs).heap.size = w.heap.size
  | [], _, _ => rfl
  | v :: r, o, w => by rw [World.setCells, size_setCells g r (o + 1) _, World.size_setCell]

theorem rest_setCells (g : Nat) : ∀ (vs : List Value) (o : Nat) (w : World), (w.setCells g o vs).os = w.os ∧ (w.setCells g o vs).tape = w.tape ∧ (w.setCells g o vs).output = w.output
  | [], _, _ => ⟨rfl, rfl, rfl⟩
  | v :: r, o, w => by rw [World.setCells]; exact rest_setCells g r (o + 1) _

theorem moved_setCells (w : World) (g o n : Nat) (f : Nat → Value) (vs : List Value) (hn : vs.length = n) (hv : ∀ j (h : j < vs.length), vs[j] = f j)
    (hc : ∀ j, j < n → (w.cell? ⟨g, o + j, none⟩).isSome = true) : Moved w (w.setCells g o vs) g o n f := by
  subst hn
  obtain ⟨h1, h2, h3⟩ := rest_setCells g vs o w
  refine ⟨h1, h2, h3, size_setCells g vs o w, fun b hb => heap_setCells g vs o w b hb, fun j hj => ?_, fun j hj => ?_, fun x => World.frozen?_setCells g vs o w x⟩
  · rw [World.cell?_setCells_in g vs o w hc j hj, hv j hj]
  · exact World.cell?_setCells_out g vs o w _ (fun _ _ => hj)

theorem Moved.nothing (w : World) (g o : Nat) (f : Nat → Value) : Moved w w g o 0 f :=
  ⟨rfl, rfl, rfl, rfl, fun _ _ => rfl, fun _ h => by omega, fun _ _ => rfl, fun _ => rfl⟩

def listOf (f : Nat → Value) (n : Nat) : List Value := (List.range n).map f
theorem length_listOf (f : Nat → Value) (n : Nat) : (listOf f n).length = n := by simp [listOf]
theorem get_listOf (f : Nat → Value) (n j : Nat) (h : j < (listOf f n).length) : (listOf f n)[j] = f j := by simp [listOf]
theorem get?_listOf {f : Nat → Value} {n j : Nat} {v : Value} (h : (listOf f n)[j]? = some v) : j < n ∧ v = f j := by
  obtain ⟨hj, e⟩ := List.getElem?_eq_some_iff.1 h
  rw [length_listOf] at hj
  rw [get_listOf] at e
  exact ⟨hj, e.symm⟩
theorem mem_listOf {f : Nat → Value} {n : Nat} {v : Value} (h : v ∈ listOf f n) : ∃ j, j < n ∧ v = f j := by
  simp [listOf] at h
  obtain ⟨j, hj, e⟩ := h
  exact ⟨j, hj, e.symm⟩

theorem wpList_copy_moved {P : Program} {w : World} {ops : Array Oper} {rest : List Oper} {o : Oper} {a : Act} {Q : Exit → Act → World → Prop} (hgd : o.guard = none) (d s : Operand) (dT sT : TypeId)
    (ho : o.op = .call { callee := .builtin .copy, args := #[d, s], argTypes := #[dT, sT] }) (elem : TypeId) (hu : P.underlying dT = some (.slice elem)) (hsz : (P.info? elem).map (·.size) = some 1)
    (g off n dCap sCap : Nat) (sp : Option Addr) (hd : a.eval d = .slice (some ⟨g, off, none⟩) n dCap) (hs : a.eval s = .slice sp n sCap) (f : Nat → Value)
    (hsrc : 0 < n → ∃ b p, sp = some ⟨b, p, none⟩ ∧ ∀ j, j < n → w.cell? ⟨b, p + j, none⟩ = some (f j))
    (hdst : ∀ j, j < n → (w.cell? ⟨g, off + j, none⟩).isSome = true) (hfz : ∀ j, j < n → w.frozen? ⟨g, off + j, none⟩ = false) (h1 : ∀ j, j < n → (f j).oneCell' = true)
    (h : ∀ w', Moved w w' g off n f → wpList P ops Q rest (a.put o.dst (goInt n)) w') : wpList P ops Q (o :: rest) a w := by
  refine wpList_plain hgd fun K hK => ?_
  by_cases h0 : n = 0
  · subst h0
    have hrun := run_copy_none (P := P) w dT sT o.type elem (some ⟨g, off, none⟩) sp 0 dCap 0 sCap hu hsz rfl
    unfold Oper.wp
    simp [execOp, ho, resolve, invoke, builtin, hd, hs, hrun, Result.andThen]
    exact hK _ _ (h w (Moved.nothing w g off f))
  · obtain ⟨b, p, rfl, hc⟩ := hsrc (by omega)
    have hrun := run_copy_cells (P := P) w dT sT o.type elem g off n dCap ⟨b, p, none⟩ n sCap (listOf f n) hu hsz (by rw [length_listOf]; exact (Nat.min_self n).symm)
      (fun j v hj => by obtain ⟨h1, rfl⟩ := get?_listOf hj; rw [Addr.add_lit]; exact hc j h1) (by rw [length_listOf]; exact hdst) (by rw [length_listOf]; exact hfz)
      (fun v hv => by obtain ⟨j, hj, rfl⟩ := mem_listOf hv; exact h1 j hj)
    rw [length_listOf] at hrun
    unfold Oper.wp
    simp [execOp, ho, resolve, invoke, builtin, hd, hs, hrun, Result.andThen]
    exact hK _ _ (h _ (moved_setCells w g off n f _ (length_listOf f n) (get_listOf f n) hdst))

end Go.Proofs.Qxb6616981a
