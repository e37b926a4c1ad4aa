/-
  list.PushBack on the typed cells.
-/
import Derived.Test.Qxb6616981aLinks
namespace Go.Proofs.Qxb6616981a
open Go.RowKit
set_option maxHeartbeats 4000000

variable {w0 w : World} {S S' : St} {K : Nat} {sz : Nat → Int} {l : Bool} {p Q : Nat → Bool} {fg : Bool} {f : Nat → Nat} {n : Nat}

theorem Rep.setE' (h : Rep w0 w S) {k o eb : Nat} (hk : k < S.nE) (ho : o < 4) (he : S.E k = eb) (v : Value) : Rep w0 (w.setCell ⟨eb, o, none⟩ v) { S with ec := u2 S.ec k o v } := he ▸ h.setE hk ho v
theorem Rep.snx' (h : Rep w0 w S) (l : Bool) {a ab : Nat} (ha : a ≤ K) (h1 : a = 0 ∨ a - 1 < S.nE) (he : blk S K a = ab) (v : Value) : Rep w0 (w.setCell ⟨ab, off l K a, none⟩ v) (Qxb6616981a.snx S l a v) := he ▸ h.snx l ha h1 v

structure LPush (S S' : St) (K : Nat) (l : Bool) (p Q : Nat → Bool) (x eb : Nat) (v : Value) (k : Int) : Prop where
  same : S' = { S with ic := S'.ic, ec := S'.ec, E := un S.E S.nE eb, nE := S.nE + 1 }
  ic : ∀ o, o ≠ L l → o ≠ L l + 1 → o ≠ L l + 4 → S'.ic o = S.ic o
  ec : ∀ i o, i ≠ x → (o = 3 ∨ p i = false) → S'.ec i o = S.ec i o
  val : S'.ec x 3 = v
  len : S'.ic (L l + 4) = .int .i64 (k + 1)
  chain : ∀ a b, adj Q K a b → lk S' l K a b
  own : ∀ i, Q i = true → S'.ec i 2 = pt S'.I (L l)

theorem ins_rep {x a0 : Nat} (h : Rep w0 w S) (hx : x = S.nE) (hxK : x < K) (hp : ∀ i, p i = true → i < x) (hchain : ∀ a b, adj p K a b → lk S l K a b) (hown : ∀ i, p i = true → S.ec i 2 = pt S.I (L l))
    (hQ : ∀ i, Q i = (p i || decide (i = x))) (A : adj p K a0 (K + 1)) (v : Value) (k : Int) :
    ∃ S', Rep w0 (insW (w.alloc (elO v)) S.I (L l) w.heap.size (blk S K a0) (off l K a0) S.I (L l) k) S' ∧ LPush S S' K l p Q x w.heap.size v k := by
  have hL := L_le l
  have hL' := L_ge l
  have a1 : a0 ≤ K := by have := A.1; omega
  have ax : a0 ≤ x := by
    rcases A.2.2.1 with e | e
    · omega
    · have := hp _ e; omega
  have R1 := h.newE #[.pointer none, .pointer none, .pointer none, v] 53 rfl
  have hE : un S.E S.nE w.heap.size x = w.heap.size := by simp [un, hx]
  have R2 := R1.setE' (k := x) (o := 1) (eb := w.heap.size) (by show x < S.nE + 1; omega) (by omega) hE (pt (blk S K a0) (off l K a0))
  have R3 := R2.setE' (k := x) (o := 0) (eb := w.heap.size) (by show x < S.nE + 1; omega) (by omega) hE (pt S.I (L l))
  have hblk : ∀ c, c ≠ x + 1 ∨ c = K + 1 → (if c = 0 ∨ c = K + 1 then S.I else un S.E S.nE w.heap.size (c - 1)) = blk S K c := by
    intro c hc
    unfold blk
    by_cases e : c = 0 ∨ c = K + 1
    · rw [if_pos e, if_pos e]
    · rw [if_neg e, if_neg e]
      have : ¬ c - 1 = S.nE := by omega
      simp [un, this]
  have R4 := R3.snx' (K := K) (a := a0) (ab := blk S K a0) l a1 (by show a0 = 0 ∨ a0 - 1 < S.nE + 1; omega) (hblk a0 (by omega)) (pt w.heap.size 0)
  have R5 := R4.setI (o := L l + 1) (by omega) (pt w.heap.size 0)
  have R6 := R5.setE' (k := x) (o := 2) (eb := w.heap.size) (by show x < S.nE + 1; omega) (by omega) hE (pt S.I (L l))
  have R7 := R6.setI (o := L l + 4) (by omega) (.int .i64 (k + 1))
  clear R1 R2 R3 R4 R5 R6
  refine ⟨_, R7, rfl, ?_, ?_, ?_, ?_, ?_, ?_⟩
  · intro o h1 h2 h3
    show u1 (u1 (if a0 = 0 then u1 S.ic (L l) _ else S.ic) (L l + 1) _) (L l + 4) _ o = S.ic o
    simp only [u1, h2, h3, if_false]
    split
    · simp [u1, h1]
    · rfl
  · intro i o hi ho
    show u2 (if a0 = 0 then u2 (u2 (un S.ec S.nE _) x 1 _) x 0 _ else u2 (u2 (u2 (un S.ec S.nE _) x 1 _) x 0 _) (a0 - 1) 0 _) x 2 _ i o = S.ec i o
    have hi' : ¬ i = S.nE := by omega
    simp only [u2, hi, false_and, if_false]
    split
    · simp [u2, un, hi, hi']
    · rename_i e0
      have e1 := A.2.2.1.resolve_left e0
      have : ¬ (i = a0 - 1 ∧ o = 0) := by
        rintro ⟨rfl, rfl⟩
        rw [e1] at ho; simp at ho
      show (if i = a0 - 1 ∧ o = 0 then _ else u2 (u2 (un S.ec S.nE _) x 1 _) x 0 _ i o) = S.ec i o
      rw [if_neg this]
      simp [u2, un, hi, hi']
  · show u2 (if a0 = 0 then u2 (u2 (un S.ec S.nE _) x 1 _) x 0 _ else u2 (u2 (u2 (un S.ec S.nE _) x 1 _) x 0 _) (a0 - 1) 0 _) x 2 _ x 3 = v
    have : ∀ q : Nat → Nat → Value, (if a0 = 0 then q else u2 q (a0 - 1) 0 (pt w.heap.size 0)) x 3 = q x 3 := fun q => by split <;> simp [u2]
    simp only [u2, true_and]
    rw [if_neg (by decide)]
    refine (this _).trans ?_
    simp [u2, un, hx, arrAt]
  · show u1 _ (L l + 4) _ (L l + 4) = _
    simp [u1]
  · intro a b hab
    have hra : a ≤ K := by have := hab.1; have := hab.2.1; omega
    have hb0 : 0 < b := by have := hab.1; omega
    -- the three looks
    have ND : ∀ c, nd { S with
          ic := u1 (u1 (if a0 = 0 then u1 S.ic (L l) (pt w.heap.size 0) else S.ic) (L l + 1) (pt w.heap.size 0)) (L l + 4) (.int .i64 (k + 1)), E := un S.E S.nE w.heap.size, nE := S.nE + 1,
          ec := u2 (if a0 = 0 then u2 (u2 (un S.ec S.nE (arrAt #[.pointer none, .pointer none, .pointer none, v])) x 1 (pt (blk S K a0) (off l K a0))) x 0 (pt S.I (L l)) else u2 (u2 (u2 (un S.ec S.nE (arrAt #[.pointer none, .pointer none, .pointer none, v])) x 1 (pt (blk S K a0) (off l K a0))) x 0 (pt S.I (L l))) (a0 - 1) 0 (pt w.heap.size 0)) x 2 (pt S.I (L l)) } l K c
        = if c = x + 1 then pt w.heap.size 0 else nd S l K c := by
      intro c
      by_cases e : c = x + 1
      · rw [if_pos e]
        have hc : ¬ (c = 0 ∨ c = K + 1) := by omega
        show pt (if c = 0 ∨ c = K + 1 then S.I else un S.E S.nE w.heap.size (c - 1)) (if c = 0 ∨ c = K + 1 then L l else 0) = _
        rw [if_neg hc, if_neg hc, e, Nat.add_sub_cancel, hE]
      · rw [if_neg e]
        show pt (if c = 0 ∨ c = K + 1 then S.I else un S.E S.nE w.heap.size (c - 1)) (off l K c) = _
        rw [hblk c (.inl e)]; rfl
    have NX : nx { S with
          ic := u1 (u1 (if a0 = 0 then u1 S.ic (L l) (pt w.heap.size 0) else S.ic) (L l + 1) (pt w.heap.size 0)) (L l + 4) (.int .i64 (k + 1)), E := un S.E S.nE w.heap.size, nE := S.nE + 1,
          ec := u2 (if a0 = 0 then u2 (u2 (un S.ec S.nE (arrAt #[.pointer none, .pointer none, .pointer none, v])) x 1 (pt (blk S K a0) (off l K a0))) x 0 (pt S.I (L l)) else u2 (u2 (u2 (un S.ec S.nE (arrAt #[.pointer none, .pointer none, .pointer none, v])) x 1 (pt (blk S K a0) (off l K a0))) x 0 (pt S.I (L l))) (a0 - 1) 0 (pt w.heap.size 0)) x 2 (pt S.I (L l)) } l a
        = if a = a0 then pt w.heap.size 0 else if a = x + 1 then pt S.I (L l) else nx S l a := by
      unfold nx
      by_cases e : a = 0
      · rw [if_pos e]
        show u1 (u1 (if a0 = 0 then u1 S.ic (L l) _ else S.ic) (L l + 1) _) (L l + 4) _ (L l) = _
        have e2 : ¬ a = x + 1 := by omega
        have n1 : ¬ L l = L l + 1 := by omega
        have n2 : ¬ L l = L l + 4 := by omega
        rw [if_neg e2, if_pos e]
        simp only [u1, n1, n2, if_false]
        by_cases e3 : a0 = 0
        · rw [if_pos e3, if_pos (by omega)]; simp [u1]
        · rw [if_neg e3, if_neg (by omega)]
      · rw [if_neg e]
        show u2 (if a0 = 0 then u2 (u2 (un S.ec S.nE _) x 1 _) x 0 _ else u2 (u2 (u2 (un S.ec S.nE _) x 1 _) x 0 _) (a0 - 1) 0 _) x 2 _ (a - 1) 0 = _
        have z1 : ¬ (a - 1 = x ∧ (0 : Nat) = 2) := by omega
        have z2 : ¬ (a - 1 = x ∧ (0 : Nat) = 1) := by omega
        unfold u2
        rw [if_neg z1]
        have base : ∀ c, c ≠ 0 → (if c - 1 = x ∧ (0 : Nat) = 0 then pt S.I (L l) else if c - 1 = x ∧ (0 : Nat) = 1 then pt (blk S K a0) (off l K a0) else un S.ec S.nE (arrAt #[.pointer none, .pointer none, .pointer none, v]) (c - 1) 0) = if c = x + 1 then pt S.I (L l) else S.ec (c - 1) 0 := by
          intro c hc
          by_cases e1 : c = x + 1
          · rw [if_pos ⟨by omega, rfl⟩, if_pos e1]
          · have : ¬ c - 1 = S.nE := by omega
            rw [if_neg (by omega), if_neg (by omega), if_neg e1]; simp [un, this]
        by_cases e3 : a0 = 0
        · rw [if_pos e3, if_neg (show ¬ a = a0 by omega), if_neg e]; exact base a e
        · rw [if_neg e3]
          by_cases e4 : a = a0
          · rw [if_pos e4]; exact if_pos ⟨by omega, rfl⟩
          · rw [if_neg e4, if_neg e]; exact (if_neg (by omega)).trans (base a e)
    have PV : pv { S with
          ic := u1 (u1 (if a0 = 0 then u1 S.ic (L l) (pt w.heap.size 0) else S.ic) (L l + 1) (pt w.heap.size 0)) (L l + 4) (.int .i64 (k + 1)), E := un S.E S.nE w.heap.size, nE := S.nE + 1,
          ec := u2 (if a0 = 0 then u2 (u2 (un S.ec S.nE (arrAt #[.pointer none, .pointer none, .pointer none, v])) x 1 (pt (blk S K a0) (off l K a0))) x 0 (pt S.I (L l)) else u2 (u2 (u2 (un S.ec S.nE (arrAt #[.pointer none, .pointer none, .pointer none, v])) x 1 (pt (blk S K a0) (off l K a0))) x 0 (pt S.I (L l))) (a0 - 1) 0 (pt w.heap.size 0)) x 2 (pt S.I (L l)) } l K b
        = if b = K + 1 then pt w.heap.size 0 else if b = x + 1 then nd S l K a0 else pv S l K b := by
      unfold pv
      by_cases e : b = K + 1
      · rw [if_pos e, if_pos e]
        show u1 (u1 _ (L l + 1) _) (L l + 4) _ (L l + 1) = _
        simp [u1]
      · rw [if_neg e, if_neg e]
        show u2 (if a0 = 0 then u2 (u2 (un S.ec S.nE _) x 1 _) x 0 _ else u2 (u2 (u2 (un S.ec S.nE _) x 1 _) x 0 _) (a0 - 1) 0 _) x 2 _ (b - 1) 1 = _
        have z1 : ¬ (b - 1 = x ∧ (1 : Nat) = 2) := by omega
        unfold u2
        rw [if_neg z1]
        have base : (if b - 1 = x ∧ (1 : Nat) = 0 then pt S.I (L l) else if b - 1 = x ∧ (1 : Nat) = 1 then pt (blk S K a0) (off l K a0) else un S.ec S.nE (arrAt #[.pointer none, .pointer none, .pointer none, v]) (b - 1) 1) = if b = x + 1 then nd S l K a0 else S.ec (b - 1) 1 := by
          rw [if_neg (by omega)]
          by_cases e1 : b = x + 1
          · rw [if_pos ⟨by omega, rfl⟩, if_pos e1]; rfl
          · have : ¬ b - 1 = S.nE := by omega
            rw [if_neg (by omega), if_neg e1]; simp [un, this]
        rw [if_neg e]
        by_cases e3 : a0 = 0
        · rw [if_pos e3]; exact base
        · rw [if_neg e3]; exact (if_neg (by omega)).trans base
    refine ⟨NX.trans ?_, PV.trans ?_⟩
    · refine Eq.trans ?_ (ND b).symm
      rcases adj_push hxK hp hQ A hab with ⟨rfl, rfl⟩ | ⟨rfl, rfl⟩ | ⟨g1, g2, g3, g4, g5⟩
      · rw [if_pos rfl, if_pos rfl]
      · rw [if_neg (by omega), if_pos rfl, if_neg (by omega)]
        unfold nd blk off
        rw [if_pos (.inr rfl), if_pos (.inr rfl)]
      · rw [if_neg g3, if_neg g4, if_neg g5]; exact (hchain _ _ g1).1
    · refine Eq.trans ?_ (ND a).symm
      rcases adj_push hxK hp hQ A hab with ⟨rfl, rfl⟩ | ⟨rfl, rfl⟩ | ⟨g1, g2, g3, g4, g5⟩
      · rw [if_neg (by omega), if_pos rfl, if_neg (by omega)]
      · rw [if_pos rfl, if_pos rfl]
      · rw [if_neg g2, if_neg g5, if_neg g4]; exact (hchain _ _ g1).2
  · intro i hi
    rw [hQ] at hi
    show u2 (if a0 = 0 then u2 (u2 (un S.ec S.nE _) x 1 _) x 0 _ else u2 (u2 (u2 (un S.ec S.nE _) x 1 _) x 0 _) (a0 - 1) 0 _) x 2 _ i 2 = pt S.I (L l)
    by_cases e : i = x
    · simp [u2, e]
    · have hpi : p i = true := by simpa [e] using hi
      have hi' : ¬ i = S.nE := by omega
      simp only [u2, e, false_and, if_false]
      rw [← hown i hpi]
      split
      · simp [u2, un, e, hi']
      · simp [u2, un, e, hi']
end Go.Proofs.Qxb6616981a
