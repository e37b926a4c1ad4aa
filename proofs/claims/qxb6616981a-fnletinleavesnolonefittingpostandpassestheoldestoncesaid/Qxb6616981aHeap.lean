/-
  container/heap over bySize, walked on the typed cells: up, down, Push, Remove.
-/
import Derived.Test.Qxb6616981aMeth
import Derived.Test.Qxb6616981aHeapLaw
namespace Go.Proofs.Qxb6616981a
open Go.RowKit

set_option maxRecDepth 100000
set_option maxHeartbeats 4000000

/-- Where a lane lies in its intake: its list's root; its heap's header 5 behind. -/
def L (l : Bool) : Nat := if l then 14 else 7
theorem L_le (l : Bool) : L l ≤ 14 := by cases l <;> decide

structure HeapAt (S : St) (l : Bool) (f : Nat → Nat) (m : Nat) : Prop where
  hdr : S.ic (L l + 5) = .slice (some ⟨S.G l, 0, none⟩) m (S.cap l)
  cap : m ≤ S.cap l
  row : ∀ j, j < m → S.hc l j = pt (S.W (f j)) 0
  lt : ∀ j, j < m → f j < S.nW
  at_ : ∀ j, j < m → S.wc (f j) 4 = .int .i64 j
  inj : ∀ j k, j < m → k < m → f j = f k → j = k

def SzAt (S : St) (sz : Nat → Int) : Prop := ∀ i, i < S.nW → S.wc i 0 = .int .i64 (sz i) ∧ S.wc i 1 = .int .u64 i

structure HFrame (Q : Nat → Prop) (l : Bool) (S S' : St) : Prop where
  same : S' = { S with ic := S'.ic, G := S'.G, cap := S'.cap, hc := S'.hc, wc := S'.wc }
  ic : ∀ o, o ≠ L l + 5 → S'.ic o = S.ic o
  G : ∀ l', l' ≠ l → S'.G l' = S.G l'
  cap : ∀ l', l' ≠ l → S'.cap l' = S.cap l'
  hc : ∀ l', l' ≠ l → S'.hc l' = S.hc l'
  wc : ∀ i o, (o ≠ 4 ∨ ¬ Q i) → S'.wc i o = S.wc i o

theorem HFrame.refl (Q : Nat → Prop) (l : Bool) (S : St) : HFrame Q l S S := ⟨rfl, fun _ _ => rfl, fun _ _ => rfl, fun _ _ => rfl, fun _ _ => rfl, fun _ _ _ => rfl⟩
theorem HFrame.trans {Q : Nat → Prop} {l : Bool} {S S' S'' : St} (h : HFrame Q l S S') (h' : HFrame Q l S' S'') : HFrame Q l S S'' :=
  ⟨by rw [h'.same, h.same], fun o ho => (h'.ic o ho).trans (h.ic o ho), fun l' hl => (h'.G l' hl).trans (h.G l' hl), fun l' hl => (h'.cap l' hl).trans (h.cap l' hl), fun l' hl => (h'.hc l' hl).trans (h.hc l' hl), fun i o hi => (h'.wc i o hi).trans (h.wc i o hi)⟩
theorem HFrame.sz {Q : Nat → Prop} {l : Bool} {S S' : St} {sz : Nat → Int} (h : HFrame Q l S S') (hs : SzAt S sz) : SzAt S' sz := by
  intro i hi
  have hn : S'.nW = S.nW := by rw [h.same]
  rw [hn] at hi
  rw [h.wc i 0 (.inl (by decide)), h.wc i 1 (.inl (by decide))]
  exact hs i hi

variable {w0 w : World} {S : St} {l : Bool} {f : Nat → Nat} {m : Nat} {sz : Nat → Int}

theorem hdr_at (h : Rep w0 w S) (H : HeapAt S l f m) : w.cell? ⟨S.I, L l + 5, none⟩ = some (.slice (some ⟨S.G l, 0, none⟩) m (S.cap l)) := by
  rw [h.iat _ (by have := L_le l; omega), H.hdr]

def lb (sz : Nat → Int) (a b : Nat) : Bool := decide (sz a < sz b ∨ (sz a = sz b ∧ (a : Int) < b))
theorem lb_iff {sz : Nat → Int} {a b : Nat} : lb sz a b = true ↔ Hp.lt sz a b := by unfold lb Hp.lt; rw [decide_eq_true_eq]; omega
theorem lb_not {sz : Nat → Int} {a b : Nat} : lb sz a b = false ↔ ¬ Hp.lt sz a b := by rw [← lb_iff]; cases lb sz a b <;> simp

theorem less_rep (h : Rep w0 w S) (H : HeapAt S l f m) (hs : SzAt S sz) {i j : Nat} (hi : i < m) (hj : j < m) :
    Calls Try.prog 55 #[.slice (some ⟨S.G l, 0, none⟩) m (S.cap l), .int .i64 i, .int .i64 j] w fun e w' => e = .returned (.bool (lb sz (f i) (f j))) ∧ ∃ nq, w' = w.drewN nq := by
  have hc := H.cap
  have a := H.lt i hi
  have b := H.lt j hj
  exact less_any (S.G l) m (S.cap l) i j (S.W (f i)) (S.W (f j)) (sz (f i)) (sz (f j)) (f i) (f j) w hi hj
    (by rw [h.hat l i (by omega), H.row i hi]) (by rw [h.hat l j (by omega), H.row j hj]) (by rw [h.wat _ a 0 (by omega), (hs _ a).1]) (by rw [h.wat _ b 0 (by omega), (hs _ b).1])
    (by rw [h.wat _ a 1 (by omega), (hs _ a).2]) (by rw [h.wat _ b 1 (by omega), (hs _ b).2])

theorem swap_rep {Q : Nat → Prop} (h : Rep w0 w S) (H : HeapAt S l f m) (hQ : ∀ j, j < m → Q (f j)) {i j : Nat} (hi : i < m) (hj : j < m) (hij : ¬ i = j) :
    Calls Try.prog 56 #[.slice (some ⟨S.G l, 0, none⟩) m (S.cap l), .int .i64 i, .int .i64 j] w fun e w' => e = .returned (.tuple #[]) ∧ ∃ S', Hid (Rep w0 w' S') ∧ Hid (HeapAt S' l (Hp.sw f i j) m) ∧ Hid (HFrame Q l S S') := by
  have hc := H.cap
  have a := H.lt i hi
  have b := H.lt j hj
  have hl : 0 < S.cap l := by omega
  have fij : ¬ f i = f j := fun e => hij (H.inj i j hi hj e)
  refine (swap_any (S.G l) m (S.cap l) i j (S.W (f i)) (S.W (f j)) (S.wc (f i) 4) (S.wc (f j) 4) w hi hj hij (fun e => fij (h.sWW _ _ a b e)) (h.sGW l _ hl a) (h.sGW l _ hl b)
    (by rw [h.hat l i (by omega), H.row i hi]) (by rw [h.hat l j (by omega), H.row j hj]) (h.wat _ a 4 (by omega)) (h.wat _ b 4 (by omega)) (h.hfr l hl i) (h.hfr l hl j) (h.wfr _ a 4) (h.wfr _ b 4)).mono ?_
  rintro e w' ⟨rfl, rfl⟩
  refine ⟨rfl, _, ((((((h.setH (l := l) (o := i) (by omega) _).setH (l := l) (o := j) (by show j < S.cap l; omega) _).setW (k := f j) (o := 4) b (by omega) _).setW (k := f i) (o := 4) a (by omega) _).drew).drew), ?_, ?_⟩
  · refine ⟨H.hdr, H.cap, fun k hk => ?_, fun k hk => ?_, fun k hk => ?_, fun k k' hk hk' e => ?_⟩
    · show uh (uh S.hc l i (pt (S.W (f j)) 0)) l j (pt (S.W (f i)) 0) l k = pt (S.W (Hp.sw f i j k)) 0
      unfold uh Hp.sw
      by_cases e1 : k = i
      · subst e1; simp [hij]
      · by_cases e2 : k = j
        · subst e2; simp [e1]
        · simp [e1, e2, H.row k hk]
    · show Hp.sw f i j k < S.nW
      unfold Hp.sw
      split
      · exact b
      · split
        · exact a
        · exact H.lt k hk
    · show u2 (u2 S.wc (f j) 4 (.int .i64 i)) (f i) 4 (.int .i64 j) (Hp.sw f i j k) 4 = .int .i64 k
      unfold u2 Hp.sw
      by_cases e1 : k = i
      · subst e1; simp; exact fun e => absurd e.symm fij
      · by_cases e2 : k = j
        · subst e2; simp [e1]
        · have n1 : ¬ f k = f i := fun e => e1 (H.inj k i hk hi e)
          have n2 : ¬ f k = f j := fun e => e2 (H.inj k j hk hj e)
          simp [e1, e2, n1, n2, H.at_ k hk]
    · exact ((Hp.Mem.sw (P := fun x => ∃ j, j < m ∧ f j = x) ⟨fun j hj => ⟨j, hj, rfl⟩, fun i hi => hi, H.inj⟩ hi hj).inj k k' hk hk' e)
  · refine ⟨rfl, fun _ _ => rfl, fun _ _ => rfl, fun _ _ => rfl, fun l' hl' => ?_, fun x o hx => ?_⟩
    · funext k
      show uh (uh S.hc l i _) l j _ l' k = _
      simp [uh, hl']
    · show u2 (u2 S.wc (f j) 4 _) (f i) 4 _ x o = _
      unfold u2
      rcases hx with hx | hx
      · simp [hx]
      · have n1 : ¬ x = f i := fun e => hx (by rw [e]; exact hQ i hi)
        have n2 : ¬ x = f j := fun e => hx (by rw [e]; exact hQ j hj)
        simp [n1, n2]
end Go.Proofs.Qxb6616981a
