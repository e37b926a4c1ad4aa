import Derived.Test.Qxb6617844aCapped
namespace Go.Proofs.Qxb6617844a
open Go.RowKit

/-- The row that is being filled: its first k runes are f 0, f 1, ..; it has room for cap. -/
structure Bw (wd : World) (N k cap : Nat) (f : Nat → Int) : Prop where
  lt : N < wd.heap.size
  part : ∀ j, j < k → wd.cell? ⟨N, j, none⟩ = some (.int .i32 (f j))
  room : ∀ j, j < cap → (wd.cell? ⟨N, j, none⟩).isSome = true
  frozen : ∀ j, wd.frozen? ⟨N, j, none⟩ = false

theorem Bw.sl {wd : World} {N k cap : Nat} {f : Nat → Int} (h : Bw wd N k cap f) : Sl wd (some ⟨N, 0, none⟩) k f :=
  fun _ => ⟨N, 0, rfl, h.lt, fun j hj => by rw [Nat.zero_add]; exact h.part j hj⟩

theorem Bw.start (w : World) (cap : Nat) (f : Nat → Int) : Bw (w.alloc (zr32 cap)) w.heap.size 0 cap f :=
  ⟨by simp, fun j hj => by omega, fun j hj => by rw [zr32_cell w cap j hj]; rfl, fun j => zr32_frozen w cap j⟩

def glue (f g : Nat → Int) (k : Nat) : Nat → Int := fun j => if j < k then f j else g (j - k)

theorem Bw.moved {wd w' : World} {N k cap n o : Nat} {f g : Nat → Int} (h : Bw wd N k cap f) (hm : Moved wd w' N o n (fun j => .int .i32 (g j))) (ho : o = k) : Bw w' N (k + n) cap (glue f g k) := by
  subst ho
  refine ⟨by rw [hm.size]; exact h.lt, fun j hj => ?_, fun j hj => ?_, fun j => by rw [hm.frozen]; exact h.frozen j⟩
  · unfold glue
    by_cases c : j < o
    · rw [if_pos c, hm.out j (.inl (by omega))]; exact h.part j c
    · have := hm.inn (j - o) (by omega)
      rw [show o + (j - o) = j from by omega] at this
      rw [if_neg c]; exact this
  · by_cases c : j < o ∨ o + n ≤ j
    · rw [hm.out j (by omega)]; exact h.room j hj
    · have := hm.inn (j - o) (by omega)
      rw [show o + (j - o) = j from by omega] at this
      rw [this]; rfl

theorem Sl.moved {wd w' : World} {N o n m : Nat} {a : Option Addr} {f : Nat → Int} {g : Nat → Value} (h : Sl wd a m f) (hm : Moved wd w' N o n g) (hN : ∀ b p, a = some ⟨b, p, none⟩ → 0 < m → b ≠ N) : Sl w' a m f := by
  intro h0
  obtain ⟨b, p, e, hb, hc⟩ := h h0
  exact ⟨b, p, e, by rw [hm.size]; exact hb, fun j hj => by rw [hm.cell (x := ⟨b, p + j, none⟩) (hN b p e h0)]; exact hc j hj⟩

/-- A cut of the slice as the source of an append. -/
theorem Sl.cut {w : World} {a sp : Option Addr} {n : Nat} {f : Nat → Int} (h : Sl w a n f) (l k : Nat) (hk : l + k ≤ n) (hsp : 0 < k → ∀ b p, a = some ⟨b, p, none⟩ → sp = some ⟨b, p + l, none⟩) :
    0 < k → ∃ b p, sp = some ⟨b, p, none⟩ ∧ ∀ j, j < k → w.cell? ⟨b, p + j, none⟩ = some ((fun j => Value.int .i32 (f (l + j))) j) := by
  intro h0
  obtain ⟨b, p, e, _, hc⟩ := h (by omega)
  refine ⟨b, p + l, hsp h0 b p e, fun j hj => ?_⟩
  rw [Nat.add_assoc]; exact hc (l + j) (by omega)

/-- THE PLAIN LAW at a rune put in. -/
theorem law_in (fa fb : Nat → Int) (n p : Nat) (hp : p ≤ n) (h0 : ∀ j, j < p → fb j = fa j) (h1 : ∀ j, p ≤ j → j < n → fb (j + 1) = fa j) :
    min (Osa.D (fun i j => fa i == fb j) n (n + 1)) 3 = 1 := by
  have a : Osa.D (fun i j => fa i == fb j) n (n + 1) ≤ 1 := by
    refine Osa.D_one _ n (n + 1) p 0 1 (n - p) (fun t ht => by rw [beq_iff_eq]; exact (h0 t ht).symm) (.inr (.inl ⟨by omega, rfl, rfl, hp, by omega⟩)) (by omega) (by omega) (fun t ht => ?_)
    rw [beq_iff_eq, show p + 1 + t = (p + 0 + t) + 1 from by omega]
    exact (h1 (p + 0 + t) (by omega) (by omega)).symm
  have b : Osa.D (fun i j => fa i == fb j) n (n + 1) ≠ 0 := fun h => by
    have := (Osa.D_nought _ _ n (n + 1) (Nat.le_refl _) h).1
    omega
  omega
/-- At a rune dropped. -/
theorem law_out (fa fb : Nat → Int) (n p : Nat) (hp : p < n + 1) (h0 : ∀ j, j < p → fb j = fa j) (h1 : ∀ j, p ≤ j → j < n → fb j = fa (j + 1)) :
    min (Osa.D (fun i j => fa i == fb j) (n + 1) n) 3 = 1 := by
  have a : Osa.D (fun i j => fa i == fb j) (n + 1) n ≤ 1 := by
    refine Osa.D_one _ (n + 1) n p 1 0 (n - p) (fun t ht => by rw [beq_iff_eq]; exact (h0 t ht).symm) (.inl ⟨rfl, by omega, rfl, hp, by omega⟩) (by omega) (by omega) (fun t ht => ?_)
    rw [beq_iff_eq, show p + 1 + t = (p + 0 + t) + 1 from by omega]
    exact (h1 (p + 0 + t) (by omega) (by omega)).symm
  have b : Osa.D (fun i j => fa i == fb j) (n + 1) n ≠ 0 := fun h => by
    have := (Osa.D_nought _ _ (n + 1) n (Nat.le_refl _) h).1
    omega
  omega
/-- At one of the same length that differs at p, and at most by one edge. -/
theorem law_same (fa fb : Nat → Int) (n : Nat) (h : ∀ j, j < n → fb j = fa j) : min (Osa.D (fun i j => fa i == fb j) n n) 3 = 0 := by
  rw [Osa.D_same _ n (fun t ht => by rw [beq_iff_eq]; exact (h t ht).symm)]; rfl
theorem law_put (fa fb : Nat → Int) (n p : Nat) (hp : p < n) (h0 : ∀ j, j < n → j ≠ p → fb j = fa j) (hd : fa p ≠ fb p) : min (Osa.D (fun i j => fa i == fb j) n n) 3 = 1 := by
  have a : Osa.D (fun i j => fa i == fb j) n n ≤ 1 := by
    refine Osa.D_one _ n n p 1 1 (n - p - 1) (fun t ht => by rw [beq_iff_eq]; exact (h0 t (by omega) (by omega)).symm) (.inr (.inr (.inl ⟨rfl, rfl, hp, hp, ?_⟩))) (by omega) (by omega) (fun t ht => ?_)
    · rw [if_neg (by rw [beq_iff_eq]; exact hd)]
    · rw [beq_iff_eq]; exact (h0 _ (by omega) (by omega)).symm
  have b : Osa.D (fun i j => fa i == fb j) n n ≠ 0 := fun h => by
    have := (Osa.D_nought _ _ n n (Nat.le_refl _) h).2 p hp
    rw [beq_iff_eq] at this
    exact hd this
  omega
theorem law_swap (fa fb : Nat → Int) (n p : Nat) (hp : p + 1 < n) (h0 : ∀ j, j < n → j ≠ p → j ≠ p + 1 → fb j = fa j) (e1 : fb p = fa (p + 1)) (e2 : fb (p + 1) = fa p) (hd : fa p ≠ fa (p + 1)) :
    min (Osa.D (fun i j => fa i == fb j) n n) 3 = 1 := by
  have a : Osa.D (fun i j => fa i == fb j) n n ≤ 1 := by
    refine Osa.D_one _ n n p 2 2 (n - p - 2) (fun t ht => by rw [beq_iff_eq]; exact (h0 t (by omega) (by omega) (by omega)).symm) (.inr (.inr (.inr ⟨rfl, rfl, rfl, hp, hp, ?_, ?_⟩))) (by omega) (by omega) (fun t ht => ?_)
    · rw [beq_iff_eq]; exact e1.symm
    · rw [beq_iff_eq]; exact e2.symm
    · rw [beq_iff_eq]; exact (h0 _ (by omega) (by omega) (by omega)).symm
  have b : Osa.D (fun i j => fa i == fb j) n n ≠ 0 := fun h => by
    have := (Osa.D_nought _ _ n n (Nat.le_refl _) h).2 p (by omega)
    rw [beq_iff_eq, e1] at this
    exact hd this
  omega

theorem Bw.set {wd : World} {N k cap : Nat} {f : Nat → Int} (h : Bw wd N k cap f) (p : Nat) (hp : p < k) (v : Int) : Bw (wd.setCell ⟨N, p, none⟩ (.int .i32 v)) N k cap (upd f p v) := by
  refine ⟨by simp; exact h.lt, fun j hj => ?_, fun j hj => ?_, fun j => by rw [World.frozen?_setCell]; exact h.frozen j⟩
  · unfold upd
    by_cases e : j = p
    · subst e; rw [if_pos rfl]; exact World.cell?_setCell_same _ _ _ (h.part j hj)
    · rw [if_neg e, World.cell?_setCell_other _ _ _ _ (by intro h; cases h; exact e rfl)]; exact h.part j hj
  · by_cases e : j = p
    · subst e; rw [World.cell?_setCell_same _ _ _ (h.part j hp)]; rfl
    · rw [World.cell?_setCell_other _ _ _ _ (by intro h; cases h; exact e rfl)]; exact h.room j hj
theorem Sl.set {wd : World} {N m p : Nat} {a : Option Addr} {f : Nat → Int} {v : Value} (h : Sl wd a m f) (hN : ∀ b p, a = some ⟨b, p, none⟩ → 0 < m → b ≠ N) : Sl (wd.setCell ⟨N, p, none⟩ v) a m f := by
  intro h0
  obtain ⟨b, q, e, hb, hc⟩ := h h0
  exact ⟨b, q, e, by simp; exact hb, fun j hj => by rw [World.cell?_setCell_other _ _ _ _ (by intro h; cases h; exact hN _ _ e h0 rfl)]; exact hc j hj⟩

theorem makeb (n : Nat) (hn : n ≤ 4096) (w : World) :
    (Instr.makeSlice 22 (.int .i64 0) (.int .i64 ((n : Int) + 1))).run Try.prog w = .ok (.slice (some ⟨w.heap.size, 0, none⟩) 0 (n + 1)) (w.alloc (zr32 (n + 1))) := by
  have := make22 0 (n + 1) (by omega) (by omega) w
  exact this

end Go.Proofs.Qxb6617844a
