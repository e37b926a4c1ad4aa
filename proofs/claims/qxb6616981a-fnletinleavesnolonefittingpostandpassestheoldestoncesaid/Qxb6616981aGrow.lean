/-
  (*bySize).Push: append with room, append that grows, append to nil.
-/
import Derived.Test.Qxb6616981aBase
import Derived.ArgAppend
namespace Go.Proofs.Qxb6616981a
open Go.RowKit

set_option maxRecDepth 100000
set_option maxHeartbeats 4000000

/-- append, by its equation. -/
theorem wpList_append_eq {P : Program} {w : World} {ops : Array Oper} {rest : List Oper} {o : Oper} {a : Act} {Q : Exit → Act → World → Prop} (hgd : o.guard = none) (s x : Operand) (t : TypeId)
    (ho : o.op = .call { callee := .builtin .append, args := #[s, x], argTypes := #[t, t] }) {v1 v2 v' : Value} {w' : World} (hs : a.eval s = v1) (hx : a.eval x = v2)
    (hr : (Builtin.append_ #[t, t] o.type #[v1, v2]).run P w = .ok v' w') (h : wpList P ops Q rest (a.put o.dst v') w') : wpList P ops Q (o :: rest) a w := by
  refine wpList_plain hgd fun K hK => ?_
  unfold Oper.wp
  simp [execOp, ho, resolve, invoke, builtin, hs, hx, hr, Result.andThen]
  exact hK _ _ h

theorem und56 : Try.prog.underlying 56 = some (.slice 30) := by kernel_rfl
theorem info30 : (Try.prog.info? 30).map (fun i => (i.zero, i.size, i.bytes)) = some (some (.pointer none), 1, 8) := by kernel_rfl
theorem parts30 : ∃ i, Try.prog.info? 30 = some i ∧ i.zero = some (.pointer none) ∧ i.size = 1 ∧ i.bytes = 8 := by
  obtain ⟨i, hi, hb⟩ := Option.map_eq_some_iff.1 info30
  simp at hb
  exact ⟨i, hi, hb⟩

theorem assert30 (x : Value) (w : World) : (Instr.typeAssert (.iface 30 x) 20 30 false).run Try.prog w = .ok x w := by kernel_rfl

def oneO (wn : Nat) : Obj := .cells #[pt wn 0] 30

theorem push_room (hb ho g n c wn : Nat) (a4 u : Value) (w : World) (hc : n < c) (h0 : w.cell? ⟨hb, ho, none⟩ = some (.slice (some ⟨g, 0, none⟩) n c)) (h4 : w.cell? ⟨wn, 4, none⟩ = some a4) (hu : w.cell? ⟨g, n, none⟩ = some u)
    (n1 : ¬ hb = wn) (n2 : ¬ g = wn) (n3 : ¬ g = hb) (f0 : w.frozen? ⟨hb, ho, none⟩ = false) (f4 : w.frozen? ⟨wn, 4, none⟩ = false) (fu : w.frozen? ⟨g, n, none⟩ = false) :
    Calls Try.prog 59 #[pt hb ho, .iface 30 (pt wn 0)] w fun e w' => e = .returned (.tuple #[]) ∧ w' = (((w.setCell ⟨wn, 4, none⟩ (.int .i64 n)).alloc (oneO wn)).setCell ⟨g, n, none⟩ (pt wn 0)).setCell ⟨hb, ho, none⟩ (.slice (some ⟨g, 0, none⟩) (n + 1) c) := by
  have lt0 : hb < w.heap.size := World.block_lt_of_cell? _ _ h0
  have lt4 : wn < w.heap.size := World.block_lt_of_cell? _ _ h4
  have ltu : g < w.heap.size := World.block_lt_of_cell? _ _ hu
  obtain ⟨i, hi, hz, hs, hby⟩ := parts30
  have hr := run_append_room_cells (P := Try.prog) ((w.setCell ⟨wn, 4, none⟩ (.int .i64 n)).alloc (oneO wn)) 56 56 30 i und56 hi g 0 n c ⟨w.heap.size, 0, none⟩ 1 1 [pt wn 0] (by rw [hs]; rfl)
    (fun j u hj => by
      cases j with
      | zero => simp at hj; subst hj; rw [Addr.add_lit, oneO, World.cell?_alloc_at _ _ _ _ (by simp)]; rfl
      | succ j => simp at hj)
    (fun u hu => by simp at hu; subst hu; rfl) (by omega)
    (fun j hj => by
      rw [hs]; simp at hj; subst hj
      rw [show 0 + n * 1 + 0 = n from by omega, World.cell?_alloc_past _ _ _ (by simp; exact ltu), cell_other (.inl n2), hu]; rfl)
    (fun j hj => by
      rw [hs]; simp at hj; subst hj
      rw [show 0 + n * 1 + 0 = n from by omega, World.frozen?_alloc_past _ _ _ (by simp; exact ltu), fr_set, fu])
  rw [hs, show 0 + n * 1 = n from by omega, World.setCells, World.setCells] at hr
  have cA : (((w.setCell ⟨wn, 4, none⟩ (.int .i64 n)).alloc (oneO wn)).setCell ⟨g, n, none⟩ (pt wn 0)).cell? ⟨hb, ho, none⟩ = some (.slice (some ⟨g, 0, none⟩) n c) := by
    rw [cell_other (.inl (fun e => n3 e.symm)), World.cell?_alloc_past _ _ _ (by simp; exact lt0), cell_other (.inl n1)]; exact h0
  have fA : (((w.setCell ⟨wn, 4, none⟩ (.int .i64 n)).alloc (oneO wn)).setCell ⟨g, n, none⟩ (pt wn 0)).frozen? ⟨hb, ho, none⟩ = false := by
    rw [fr_set, World.frozen?_alloc_past _ _ _ (by simp; exact lt0), fr_set]; exact f0
  obtain ⟨wA, hA⟩ : ∃ wA, wA = ((w.setCell ⟨wn, 4, none⟩ (.int .i64 n)).alloc (oneO wn)).setCell ⟨g, n, none⟩ (pt wn 0) := ⟨_, rfl⟩
  rw [← hA] at hr cA fA ⊢
  have HR : Hid (_ = _) := hr
  clear hr hA hu fu
  have has := assert30
  go_enter Try.func59, Try.ntmps59
  go_wp2_with (at_builtin; go_must (refine wpList_append_eq rfl _ _ 56 rfl rfl rfl HR.out ?_))
  go_wp2
  exact bodyPost_end (v := .tuple #[]) (by simp [results, Try.results59]) rfl ⟨rfl, rfl⟩

/-- The world behind a Push that grows: a new row. -/
def growW (w : World) (hb ho n wn : Nat) (arr : Array Value) : World :=
  (((w.setCell ⟨wn, 4, none⟩ (.int .i64 n)).alloc (oneO wn)).drew.alloc (.cells arr 30)).setCell ⟨hb, ho, none⟩ (.slice (some ⟨w.heap.size + 1, 0, none⟩) (n + 1) arr.size)

theorem size_zeroCells (z : Value) (h : z.cells.size = 1) (k : Nat) : (Builtin.zeroCells z.cells k).size = k := by simp [Builtin.zeroCells, h]

theorem push_grow (hb ho g n c wn : Nat) (a4 : Value) (f : Nat → Value) (w : World) (hn : n ≤ 1000000) (hc : c ≤ n) (h0 : w.cell? ⟨hb, ho, none⟩ = some (.slice (some ⟨g, 0, none⟩) n c)) (h4 : w.cell? ⟨wn, 4, none⟩ = some a4) (hf : ∀ j, j < n → w.cell? ⟨g, j, none⟩ = some (f j)) (hp : 0 < n)
    (n1 : ¬ hb = wn) (n2 : ¬ g = wn) (f0 : w.frozen? ⟨hb, ho, none⟩ = false) (f4 : w.frozen? ⟨wn, 4, none⟩ = false) :
    ∃ arr : Array Value, n + 1 ≤ arr.size ∧ (∀ j, j < n → arr[j]? = some (f j)) ∧ arr[n]? = some (pt wn 0) ∧
    Calls Try.prog 59 #[pt hb ho, .iface 30 (pt wn 0)] w fun e w' => e = .returned (.tuple #[]) ∧ w' = growW w hb ho n wn arr := by
  have lt0 : hb < w.heap.size := World.block_lt_of_cell? _ _ h0
  have lt4 : wn < w.heap.size := World.block_lt_of_cell? _ _ h4
  have ltg : g < w.heap.size := World.block_lt_of_cell? _ _ (hf 0 hp)
  obtain ⟨i, hi, hz, hs, hby⟩ := parts30
  obtain ⟨W1, hW1⟩ : ∃ W1, W1 = (w.setCell ⟨wn, 4, none⟩ (.int .i64 n)).alloc (oneO wn) := ⟨_, rfl⟩
  have hsz : W1.heap.size = w.heap.size + 1 := by rw [hW1]; simp
  have hr := run_append_grow (P := Try.prog) W1 56 56 30 i (.pointer none) und56 hi hz ⟨g, 0, none⟩ n c ((List.range n).map f) (by rw [hs]; simp)
    (fun j v hj => by
      have hjn : j < n := by
        rcases Nat.lt_or_ge j n with h | h
        · exact h
        · rw [List.getElem?_eq_none (by simp; exact h)] at hj; cases hj
      simp [hjn] at hj
      rw [Addr.add_lit, hW1, World.cell?_alloc_past _ _ _ (by simp; exact ltg), cell_other (.inl n2), Nat.zero_add, hf j hjn, hj])
    ⟨w.heap.size, 0, none⟩ 1 1 [pt wn 0] (by rw [hs]; rfl)
    (fun j u hj => by
      cases j with
      | zero => simp at hj; subst hj; rw [Addr.add_lit, hW1, oneO, World.cell?_alloc_at _ _ _ _ (by simp)]; rfl
      | succ j => simp at hj)
    (by omega) (by omega) (growslice_fits (by omega) (by rw [hby]; omega))
  obtain ⟨gc, hgc⟩ : ∃ gc, gc = grownCap W1 (n + 1) c 30 := ⟨_, rfl⟩
  have hge : n + 1 ≤ gc := by rw [hgc]; exact grownCap_ge _ _ _ _
  rw [← hgc] at hr
  obtain ⟨arr, harr⟩ : ∃ arr, arr = ((List.range n).map f).toArray ++ [pt wn 0].toArray ++ Builtin.zeroCells (Value.pointer none).cells (gc - (n + 1)) := ⟨_, rfl⟩
  rw [← harr] at hr
  have hsize : arr.size = gc := by rw [harr]; simp [size_zeroCells (.pointer none) rfl]; omega
  have hcell : ∀ j, j < n → arr[j]? = some (f j) := fun j hj => by
    rw [harr, Array.getElem?_append_left (by simp; omega), Array.getElem?_append_left (by simp; omega)]; simp [hj]
  have hlast : arr[n]? = some (pt wn 0) := by
    rw [harr, Array.getElem?_append_left (by simp), Array.getElem?_append_right (by simp)]; simp
  refine ⟨arr, by omega, hcell, hlast, ?_⟩
  rw [hsz, ← hsize] at hr
  obtain ⟨wA, hA⟩ : ∃ wA, wA = W1.drew.alloc (.cells arr 30) := ⟨_, rfl⟩
  have bel : Below w.heap.size (w.setCell ⟨wn, 4, none⟩ (.int .i64 n)) wA := by
    have b1 : Below w.heap.size (w.setCell ⟨wn, 4, none⟩ (.int .i64 n)) W1 := by rw [hW1]; exact (Below.refl _ _).alloc (by rw [World.size_setCell]; exact Nat.le_refl _) _
    have b2 : Below w.heap.size (w.setCell ⟨wn, 4, none⟩ (.int .i64 n)) W1.drew := b1.trans ⟨rfl, rfl, rfl, Nat.le_refl _, fun _ _ => rfl⟩
    rw [hA]
    exact b2.alloc (by show w.heap.size ≤ W1.heap.size; omega) _
  have cA : wA.cell? ⟨hb, ho, none⟩ = some (.slice (some ⟨g, 0, none⟩) n c) := by
    rw [bel.cell (p := ⟨hb, ho, none⟩) lt0, cell_other (.inl n1)]; exact h0
  have fA : wA.frozen? ⟨hb, ho, none⟩ = false := by
    rw [bel.frozen (p := ⟨hb, ho, none⟩) lt0, fr_set]; exact f0
  have HR : Hid ((Builtin.append_ #[56, 56] 56 #[.slice (some ⟨g, 0, none⟩) n c, .slice (some ⟨w.heap.size, 0, none⟩) 1 1]).run Try.prog ((w.setCell ⟨wn, 4, none⟩ (.int .i64 n)).alloc (oneO wn)) = .ok (.slice (some ⟨w.heap.size + 1, 0, none⟩) (n + 1) arr.size) wA) := by
    rw [← hW1, hA]; exact hr
  have hE : growW w hb ho n wn arr = wA.setCell ⟨hb, ho, none⟩ (.slice (some ⟨w.heap.size + 1, 0, none⟩) (n + 1) arr.size) := by
    unfold growW; rw [hA, hW1]
  rw [hE]
  clear hr hA hE bel hW1 hsz hcell hlast harr hsize hf hge hgc
  have has := assert30
  go_enter Try.func59, Try.ntmps59
  go_wp2_with (at_builtin; go_must (refine wpList_append_eq rfl _ _ 56 rfl rfl rfl HR.out ?_))
  go_wp2
  exact bodyPost_end (v := .tuple #[]) (by simp [results, Try.results59]) rfl ⟨rfl, rfl⟩

theorem push_nil (hb ho wn : Nat) (a4 : Value) (w : World) (h0 : w.cell? ⟨hb, ho, none⟩ = some (.slice none 0 0)) (h4 : w.cell? ⟨wn, 4, none⟩ = some a4)
    (n1 : ¬ hb = wn) (f0 : w.frozen? ⟨hb, ho, none⟩ = false) (f4 : w.frozen? ⟨wn, 4, none⟩ = false) :
    ∃ arr : Array Value, 1 ≤ arr.size ∧ arr[0]? = some (pt wn 0) ∧
    Calls Try.prog 59 #[pt hb ho, .iface 30 (pt wn 0)] w fun e w' => e = .returned (.tuple #[]) ∧ w' = growW w hb ho 0 wn arr := by
  have lt0 : hb < w.heap.size := World.block_lt_of_cell? _ _ h0
  have lt4 : wn < w.heap.size := World.block_lt_of_cell? _ _ h4
  obtain ⟨i, hi, hz, hs, hby⟩ := parts30
  obtain ⟨W1, hW1⟩ : ∃ W1, W1 = (w.setCell ⟨wn, 4, none⟩ (.int .i64 0)).alloc (oneO wn) := ⟨_, rfl⟩
  have hsz : W1.heap.size = w.heap.size + 1 := by rw [hW1]; simp
  have hr := run_append_nil (P := Try.prog) W1 56 56 30 i (.pointer none) und56 hi hz
    ⟨w.heap.size, 0, none⟩ 1 1 [pt wn 0] (by rw [hs]; rfl)
    (fun j u hj => by
      cases j with
      | zero => simp at hj; subst hj; rw [Addr.add_lit, hW1, oneO, World.cell?_alloc_at _ _ _ _ (by simp)]; rfl
      | succ j => simp at hj)
    (by omega) (by omega) (by rw [hby]; omega)
  obtain ⟨gc, hgc⟩ : ∃ gc, gc = grownCap W1 1 0 30 := ⟨_, rfl⟩
  have hge : 1 ≤ gc := by rw [hgc]; exact grownCap_ge _ _ _ _
  rw [← hgc] at hr
  obtain ⟨arr, harr⟩ : ∃ arr, arr = [pt wn 0].toArray ++ Builtin.zeroCells (Value.pointer none).cells (gc - 1) := ⟨_, rfl⟩
  rw [← harr] at hr
  have hsize : arr.size = gc := by rw [harr]; simp [size_zeroCells (.pointer none) rfl]; omega
  have hlast : arr[0]? = some (pt wn 0) := by
    rw [harr, Array.getElem?_append_left (by simp)]; rfl
  refine ⟨arr, by omega, hlast, ?_⟩
  rw [hsz, ← hsize] at hr
  obtain ⟨wA, hA⟩ : ∃ wA, wA = W1.drew.alloc (.cells arr 30) := ⟨_, rfl⟩
  have bel : Below w.heap.size (w.setCell ⟨wn, 4, none⟩ (.int .i64 0)) wA := by
    have b1 : Below w.heap.size (w.setCell ⟨wn, 4, none⟩ (.int .i64 0)) W1 := by rw [hW1]; exact (Below.refl _ _).alloc (by rw [World.size_setCell]; exact Nat.le_refl _) _
    have b2 : Below w.heap.size (w.setCell ⟨wn, 4, none⟩ (.int .i64 0)) W1.drew := b1.trans ⟨rfl, rfl, rfl, Nat.le_refl _, fun _ _ => rfl⟩
    rw [hA]
    exact b2.alloc (by show w.heap.size ≤ W1.heap.size; omega) _
  have cA : wA.cell? ⟨hb, ho, none⟩ = some (.slice none 0 0) := by
    rw [bel.cell (p := ⟨hb, ho, none⟩) lt0, cell_other (.inl n1)]; exact h0
  have fA : wA.frozen? ⟨hb, ho, none⟩ = false := by
    rw [bel.frozen (p := ⟨hb, ho, none⟩) lt0, fr_set]; exact f0
  have HR : Hid ((Builtin.append_ #[56, 56] 56 #[.slice none 0 0, .slice (some ⟨w.heap.size, 0, none⟩) 1 1]).run Try.prog ((w.setCell ⟨wn, 4, none⟩ (.int .i64 0)).alloc (oneO wn)) = .ok (.slice (some ⟨w.heap.size + 1, 0, none⟩) 1 arr.size) wA) := by
    rw [← hW1, hA]; exact hr
  have hE : growW w hb ho 0 wn arr = wA.setCell ⟨hb, ho, none⟩ (.slice (some ⟨w.heap.size + 1, 0, none⟩) 1 arr.size) := by
    unfold growW; rw [hA, hW1]; rfl
  rw [hE]
  clear hr hA hE bel hW1 hsz hlast harr hsize hge hgc
  have has := assert30
  go_enter Try.func59, Try.ntmps59
  go_wp2_with (at_builtin; go_must (refine wpList_append_eq rfl _ _ 56 rfl rfl rfl HR.out ?_))
  go_wp2
  exact bodyPost_end (v := .tuple #[]) (by simp [results, Try.results59]) rfl ⟨rfl, rfl⟩
end Go.Proofs.Qxb6616981a
