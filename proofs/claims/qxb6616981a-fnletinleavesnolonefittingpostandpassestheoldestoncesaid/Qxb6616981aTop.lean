/-
  WHAT THE LAWS CALL: the intake with its waiters' slice; the row of 'ready's; sums within bounds.
-/
import Derived.Test.Qxb6616981aIs
import Derived.Test.Qxb6616981aLetin
import Derived.Test.Qxb6616981aMakew
import Derived.Test.Qxb6616981aHeads
import Derived.Test.Qxb6616981aMove
namespace Go.Proofs.Qxb6616981a
open Go.RowKit
set_option maxRecDepth 100000
set_option maxHeartbeats 4000000

structure PInv (w0 w : World) (S : St) (pr : Prm) (st : A) (ib vb : Nat) : Prop where
  inv : Inv w0 w S pr st st.wt
  I : S.I = ib
  V : S.V = vb
  nV : S.nV = pr.K
  vc : ∀ i, i < pr.K → S.vc i = pt (S.W i) 0

variable {w0 w w' : World} {S S' : St} {pr : Prm} {st : A} {ib vb : Nat}

theorem PInv.below (h : PInv w0 w S pr st ib vb) (hb : Below w.heap.size w w') : PInv w0 w' S pr st ib vb := { h with inv := h.inv.below hb }
theorem PInv.drewN (h : PInv w0 w S pr st ib vb) (n : Nat) : PInv w0 (w.drewN n) S pr st ib vb := { h with inv := h.inv.drewN n }
theorem PInv.dr (h : PInv w0 w S pr st ib vb) (hd : DR w w') : PInv w0 w' S pr st ib vb := { h with inv := h.inv.dr hd }

theorem PInv.ws (h : PInv w0 w S pr st ib vb) {i : Nat} (hi : i < pr.K) : w.cell? ⟨vb, i, none⟩ = some (pt (S.W i) 0) := by
  have := h.inv.rep.vat i (by rw [h.nV]; exact hi)
  rw [h.V, h.vc i hi] at this
  exact this

theorem PInv.ready (h : PInv w0 w S pr st ib vb) {i : Nat} (hi : i < pr.K) : Calls Try.prog 8 #[pt (S.W i) 0] w fun e w' => e = .returned (.bool (!st.wt i)) ∧ w' = w := by
  have hi' : i < S.nW := by rw [h.inv.nW]; exact hi
  have := ready_rep h.inv.rep hi' (h.inv.wat.ch i hi')
  rw [h.inv.shut i hi] at this
  exact this

theorem top_make (pr : Prm) (st : A) (hd : Dom pr) (hw : ∀ i, st.wt i = decide (i < pr.K)) (a : Option Addr) (c : Nat) (w : World) (hs : Sl w a pr.K (fun j => .int .i64 (pr.sz j))) :
    Calls Try.prog 7 #[.int .i64 pr.room, .int .i64 pr.lroom, .int .i64 pr.small, .int .i64 st.held, .int .i64 st.lheld, .slice a pr.K c, .bool (st.fl false), .bool (st.fl true)] w fun e w' =>
      e = .returned (.tuple #[pt w.heap.size 0, .slice (some ⟨w.heap.size + 1, 0, none⟩) pr.K pr.K]) ∧ ∃ S, Hid (PInv w w' S pr st w.heap.size (w.heap.size + 1)) := by
  refine (make_walk pr st hd a c w hs).mono ?_
  rintro e w' ⟨rfl, S, h⟩
  have h := h.out
  refine ⟨rfl, S, ⟨h.rep, h.wat, h.nW, h.c0, h.c1, h.c2, h.c5, h.c6, fun i hi => ?_, fun l => ?_⟩, h.I, h.V, h.nV, h.vc⟩
  · rw [h.shut i hi, hw]; simp [hi]
  · obtain ⟨f, n, H, _⟩ := h.lanes l
    exact ⟨f, n, H.congr (fun i => by unfold P pk; rw [hw])⟩

theorem top_letin (hd : Dom pr) (hb : Bd pr st) (h : PInv w0 w S pr st ib vb) :
    Calls Try.prog 9 #[pt ib 0] w fun e w' => e = .returned (.tuple #[]) ∧ ∃ S' st', Hid (PInv w0 w' S' pr st' ib vb) ∧ Hid (Steps pr st st') ∧ Hid (Pick pr st' none) ∧ Hid (Bd pr st') ∧ Hid (Pick pr st none → st' = st ∧ DR w w') := by
  have HC : Hid (Calls Try.prog 20 #[pt ib 0] w fun e w' => e = .returned (.tuple #[]) ∧ Hid (∃ S' st', Hid (PInv w0 w' S' pr st' ib vb) ∧ Hid (Steps pr st st') ∧ Hid (Pick pr st' none) ∧ Hid (Bd pr st') ∧ Hid (Pick pr st none → st' = st ∧ DR w w'))) := by
    have := letin_rep hd hb h.inv
    rw [h.I] at this
    refine this.mono ?_
    rintro e w' ⟨rfl, S', st', h1, h2, h3, h4, h5, h6⟩
    refine ⟨rfl, S', st', ⟨h1.out, h2.out.I.trans h.I, h2.out.V.trans h.V, h2.out.nV.trans h.nV, fun i hi => ?_⟩, h3, h4, h5, fun hp => (h6.out hp).2⟩
    rw [h2.out.vc, h2.out.W]; exact h.vc i hi
  clear h hb hd
  go_enter Try.func9, Try.ntmps9
  go_wp2_with fail
  refine HC.out.mono ?_
  rintro e w' ⟨rfl, h⟩
  go_wp2
  exact bodyPost_end (v := .tuple #[]) (by simp [results, Try.results9]) rfl ⟨rfl, h.out⟩

theorem top_held (h : PInv w0 w S pr st ib vb) : Calls Try.prog 10 #[pt ib 0] w fun e w' => e = .returned (.tuple #[.int .i64 st.held, .int .i64 st.lheld]) ∧ Hid (DR w w') := by
  obtain ⟨c0, c1, c2, c5, c6⟩ := inv_ic h.inv
  rw [h.I] at c5 c6
  exact held_any ib _ _ w c5 c6

/-- The row of 'ready's as it is filled. -/
structure Bv (wd : World) (N k cap : Nat) (f : Nat → Value) : Prop where
  lt : N < wd.heap.size
  part : ∀ j, j < k → wd.cell? ⟨N, j, none⟩ = some (f j)
  room : ∀ j, j < cap → ∃ v, wd.cell? ⟨N, j, none⟩ = some v
  frozen : ∀ j, wd.frozen? ⟨N, j, none⟩ = false
theorem Bv.sl {wd : World} {N k cap : Nat} {f : Nat → Value} (h : Bv wd N k cap f) : Sl wd (some ⟨N, 0, none⟩) k f := fun _ => ⟨N, 0, rfl, h.lt, fun j hj => by rw [Nat.zero_add]; exact h.part j hj⟩
theorem Bv.put {wd : World} {N k cap : Nat} {f : Nat → Value} (h : Bv wd N k cap f) (hk : k < cap) : Bv (wd.setCell ⟨N, k, none⟩ (f k)) N (k + 1) cap f := by
  obtain ⟨u, hu⟩ := h.room k hk
  refine ⟨by simp; exact h.lt, fun j hj => ?_, fun j hj => ?_, fun j => by rw [World.frozen?_setCell]; exact h.frozen j⟩
  · by_cases e : j = k
    · subst e; exact World.cell?_setCell_same _ _ _ hu
    · rw [World.cell?_setCell_other _ _ _ _ (by intro h; cases h; exact e rfl)]; exact h.part j (by omega)
  · by_cases e : j = k
    · subst e; exact ⟨_, World.cell?_setCell_same _ _ _ hu⟩
    · rw [World.cell?_setCell_other _ _ _ _ (by intro h; cases h; exact e rfl)]; exact h.room j hj

theorem und34 : Try.prog.underlying 34 = some (.slice 4) := by kernel_rfl
theorem info4 : (Try.prog.info? 4).map (fun i => (i.zero, i.size, i.bytes)) = some (some (.bool false), 1, 1) := by kernel_rfl
theorem parts4 : ∃ i, Try.prog.info? 4 = some i ∧ i.zero = some (.bool false) ∧ i.size = 1 ∧ i.bytes = 1 := by
  obtain ⟨i, hi, hb⟩ := Option.map_eq_some_iff.1 info4
  simp at hb
  exact ⟨i, hi, hb⟩
def rdO (n : Nat) : Obj := .cells (madeCells #[Value.bool false] n) 4
theorem mkrd (n : Nat) (hn : n ≤ 70000) (w : World) : (Instr.makeSlice 34 (.int .i64 (n : Int)) (.int .i64 (n : Int))).run Try.prog w = .ok (.slice (some ⟨w.heap.size, 0, none⟩) n n) (w.alloc (rdO n)) := by
  obtain ⟨i0, hi, hz0, hz1, hz2⟩ := parts4
  have := run_make (P := Try.prog) w 34 4 i0 (.bool false) und34 hi hz0 .i64 .i64 (n : Int) (n : Int) (by omega) (by omega) (by rw [hz2]; omega) (by omega)
  rw [this, hz1, Nat.mul_one, Int.toNat_natCast]
  rfl
theorem Bv.start (w : World) (n : Nat) (f : Nat → Value) : Bv (w.alloc (rdO n)) w.heap.size 0 n f := by
  refine ⟨by simp, fun j hj => by omega, fun j hj => ⟨.bool false, ?_⟩, fun j => ?_⟩
  · rw [rdO, World.cell?_alloc_at _ _ _ _ rfl, Array.getElem?_eq_getElem (by rw [size_madeCells]; exact hj)]
    simp [madeCells, Nat.mod_one]
  · rw [rdO, World.frozen?_alloc_at _ _ _ _ rfl]

theorem und22 : Try.prog.underlying 22 = some (.slice 2) := by kernel_rfl
theorem info2 : (Try.prog.info? 2).map (fun i => (i.zero, i.size, i.bytes)) = some (some (.int .i64 0), 1, 8) := by kernel_rfl
theorem size2 : (Try.prog.info? 2).map (·.size) = some 1 := by kernel_rfl
theorem parts2 : ∃ i, Try.prog.info? 2 = some i ∧ i.zero = some (.int .i64 0) ∧ i.size = 1 ∧ i.bytes = 8 := by
  obtain ⟨i, hi, hb⟩ := Option.map_eq_some_iff.1 info2
  simp at hb
  exact ⟨i, hi, hb⟩
def szO (n : Nat) : Obj := .cells (madeCells #[Value.int .i64 0] n) 2
theorem mksz (n : Nat) (hn : n ≤ 70000) (w : World) : (Instr.makeSlice 22 (.int .i64 (n : Int)) (.int .i64 (n : Int))).run Try.prog w = .ok (.slice (some ⟨w.heap.size, 0, none⟩) n n) (w.alloc (szO n)) := by
  obtain ⟨i0, hi, hz0, hz1, hz2⟩ := parts2
  have := run_make (P := Try.prog) w 22 2 i0 (.int .i64 0) und22 hi hz0 .i64 .i64 (n : Int) (n : Int) (by omega) (by omega) (by rw [hz2]; omega) (by omega)
  rw [this, hz1, Nat.mul_one, Int.toNat_natCast]
  rfl
theorem szO_cell (w : World) (n j : Nat) (h : j < n) : (w.alloc (szO n)).cell? ⟨w.heap.size, j, none⟩ = some (.int .i64 0) := by
  rw [szO, World.cell?_alloc_at _ _ _ _ rfl, Array.getElem?_eq_getElem (by rw [size_madeCells]; exact h)]
  simp [madeCells, Nat.mod_one]
theorem szO_frozen (w : World) (n j : Nat) : (w.alloc (szO n)).frozen? ⟨w.heap.size, j, none⟩ = false := by
  rw [szO, World.frozen?_alloc_at _ _ _ _ rfl]
theorem Sl.src {w : World} {a : Option Addr} {n : Nat} {f : Nat → Value} (h : Sl w a n f) : 0 < n → ∃ b p, a = some ⟨b, p, none⟩ ∧ ∀ j, j < n → w.cell? ⟨b, p + j, none⟩ = some (f j) := fun hn => by
  obtain ⟨b, o, h1, _, h3⟩ := h hn
  exact ⟨b, o, h1, h3⟩
theorem Moved.sl {w w' : World} {g n : Nat} {f : Nat → Value} (h : Moved w w' g 0 n f) (hg : g < w.heap.size) : Sl w' (some ⟨g, 0, none⟩) n f := fun _ => ⟨g, 0, rfl, by rw [h.size]; exact hg, h.inn⟩

theorem sm_bound {g : Nat → Int} {M : Int} : ∀ k, (∀ i, i < k → 0 ≤ g i ∧ g i ≤ M) → 0 ≤ sm g k ∧ sm g k ≤ k * M := by
  intro k
  induction k with
  | zero => intro _; simp [sm]
  | succ k ih =>
    intro h
    have h1 := ih (fun i hi => h i (by omega))
    have h2 := h k (by omega)
    rw [sm]
    have : ((k + 1 : Nat) : Int) * M = k * M + M := by rw [Int.natCast_add, Int.add_mul]; simp
    rw [this]
    omega

/-- The start of both laws. -/
def st0 (K : Nat) (held lheld : Int) (f1 f2 : Bool) : A := ⟨fun i => decide (i < K), held, lheld, fun l => if l then f2 else f1⟩
end Go.Proofs.Qxb6616981a
