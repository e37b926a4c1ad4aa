/-
  list.Remove and list.PushBack on the typed cells.
-/
import Derived.Test.Qxb6616981aLane
namespace Go.Proofs.Qxb6616981a
open Go.RowKit

def snx (S : St) (l : Bool) (a : Nat) (v : Value) : St := { S with ic := if a = 0 then u1 S.ic (L l) v else S.ic, ec := if a = 0 then S.ec else u2 S.ec (a - 1) 0 v }
def spv (S : St) (l : Bool) (K b : Nat) (v : Value) : St := { S with ic := if b = K + 1 then u1 S.ic (L l + 1) v else S.ic, ec := if b = K + 1 then S.ec else u2 S.ec (b - 1) 1 v }

variable {w0 w : World} {S S' : St} {K : Nat} {sz : Nat → Int} {l : Bool} {p Q : Nat → Bool} {fg : Bool} {f : Nat → Nat} {n : Nat}

theorem Rep.snx (h : Rep w0 w S) (l : Bool) {a : Nat} (ha : a ≤ K) (h1 : a = 0 ∨ a - 1 < S.nE) (v : Value) : Rep w0 (w.setCell ⟨blk S K a, off l K a, none⟩ v) (snx S l a v) := by
  have hL := L_le l
  unfold blk off Qxb6616981a.snx
  by_cases e : a = 0
  · simp only [e, true_or, if_true]; exact h.setI (by omega) v
  · have : ¬ (a = 0 ∨ a = K + 1) := by omega
    simp only [if_neg this, if_neg e]; exact h.setE (h1.resolve_left e) (by omega) v

theorem Rep.spv (h : Rep w0 w S) (l : Bool) {b : Nat} (hb : 0 < b) (h1 : b = K + 1 ∨ b - 1 < S.nE) (v : Value) : Rep w0 (w.setCell ⟨blk S K b, off l K b + 1, none⟩ v) (spv S l K b v) := by
  have hL := L_le l
  unfold blk off Qxb6616981a.spv
  by_cases e : b = K + 1
  · simp only [e, or_true, if_true]; exact h.setI (by omega) v
  · have : ¬ (b = 0 ∨ b = K + 1) := by omega
    simp only [if_neg this, if_neg e]; exact h.setE (h1.resolve_left e) (by omega) v

theorem nx_snx (S : St) (l : Bool) (a c : Nat) (v : Value) : nx (snx S l a v) l c = if c = a then v else nx S l c := by
  unfold nx snx
  by_cases e1 : a = 0 <;> by_cases e2 : c = 0
  · simp [e1, e2, u1]
  · simp [e1, e2]
  · have : ¬ c = a := by omega
    have : ¬ 0 = a := by omega
    simp [e1, e2, this]
  · by_cases e3 : c = a
    · simp [e1, e3, u2]
    · have : ¬ c - 1 = a - 1 := by omega
      simp [e1, e2, e3, u2, this]
theorem pv_snx (S : St) (l : Bool) (K a c : Nat) (v : Value) : pv (snx S l a v) l K c = pv S l K c := by
  unfold pv snx
  by_cases e1 : a = 0
  · simp [e1, u1]
  · simp [e1, u2]
theorem nx_spv (S : St) (l : Bool) (K b c : Nat) (v : Value) : nx (spv S l K b v) l c = nx S l c := by
  unfold nx spv
  by_cases e1 : b = K + 1
  · simp [e1, u1]
  · simp [e1, u2]
theorem pv_spv (S : St) (l : Bool) (K b c : Nat) (v : Value) (hb : 0 < b) (hc : 0 < c) : pv (spv S l K b v) l K c = if c = b then v else pv S l K c := by
  unfold pv spv
  by_cases e1 : b = K + 1 <;> by_cases e2 : c = K + 1
  · simp [e1, e2, u1]
  · simp [e1, e2]
  · have : ¬ K + 1 = b := by omega
    simp [e1, e2, this]
  · by_cases e3 : c = b
    · simp [e1, e3, u2]
    · have : ¬ c - 1 = b - 1 := by omega
      simp [e1, e2, e3, u2, this]

theorem Rep.nxat (h : Rep w0 w S) (l : Bool) {a : Nat} (ha : a ≤ K) (h1 : a = 0 ∨ a - 1 < S.nE) : w.cell? ⟨blk S K a, off l K a, none⟩ = some (nx S l a) ∧ w.frozen? ⟨blk S K a, off l K a, none⟩ = false := by
  have hL := L_le l
  unfold blk off nx
  by_cases e : a = 0
  · simp only [e, true_or, if_true]; exact ⟨h.iat _ (by omega), h.ifr _⟩
  · have : ¬ (a = 0 ∨ a = K + 1) := by omega
    simp only [if_neg this, if_neg e]; exact ⟨h.eat _ (h1.resolve_left e) _ (by omega), h.efr _ (h1.resolve_left e) _⟩
theorem Rep.pvat (h : Rep w0 w S) (l : Bool) {b : Nat} (hb : 0 < b) (h1 : b = K + 1 ∨ b - 1 < S.nE) : w.cell? ⟨blk S K b, off l K b + 1, none⟩ = some (pv S l K b) ∧ w.frozen? ⟨blk S K b, off l K b + 1, none⟩ = false := by
  have hL := L_le l
  unfold blk off pv
  by_cases e : b = K + 1
  · simp only [e, or_true, if_true]; exact ⟨h.iat _ (by omega), h.ifr _⟩
  · have : ¬ (b = 0 ∨ b = K + 1) := by omega
    simp only [if_neg this, if_neg e]; exact ⟨h.eat _ (h1.resolve_left e) _ (by omega), h.efr _ (h1.resolve_left e) _⟩

theorem off_cases (l : Bool) (K a : Nat) : off l K a = L l ∨ off l K a = 0 := by
  unfold off; split
  · exact .inl rfl
  · exact .inr rfl

theorem Rep.ptrI (h : Rep w0 w S) : PtrOK w S.I := ⟨⟨0, _, h.iat 0 (by omega)⟩, h.ifr⟩
theorem Rep.ptrE (h : Rep w0 w S) {i : Nat} (hi : i < S.nE) : PtrOK w (S.E i) := ⟨⟨0, _, h.eat i hi 0 (by omega)⟩, h.efr i hi⟩
theorem Rep.ptrW (h : Rep w0 w S) {i : Nat} (hi : i < S.nW) : PtrOK w (S.W i) := ⟨⟨0, _, h.wat i hi 0 (by omega)⟩, h.wfr i hi⟩

structure LRem (S S' : St) (K : Nat) (l : Bool) (p Q : Nat → Bool) (n : Nat) : Prop where
  same : S' = { S with ic := S'.ic, ec := S'.ec }
  ic : ∀ o, o ≠ L l → o ≠ L l + 1 → o ≠ L l + 4 → S'.ic o = S.ic o
  ec : ∀ i o, (o = 3 ∨ p i = false) → S'.ec i o = S.ec i o
  len : S'.ic (L l + 4) = .int .i64 ((n : Int) - 1)
  chain : ∀ a b, adj Q K a b → lk S' l K a b
  own : ∀ i, Q i = true → S'.ec i 2 = pt S'.I (L l)

theorem lrem_rep {x : Nat} (h : Rep w0 w S) (hplt : ∀ i, p i = true → i < K ∧ i < S.nE) (hlen : S.ic (L l + 4) = .int .i64 n) (hn : 0 < n) (hn2 : n < 1000000) (hchain : ∀ a b, adj p K a b → lk S l K a b) (hown : ∀ i, p i = true → S.ec i 2 = pt S.I (L l))
    (hx : p x = true) (hQ : ∀ i, Q i = (p i && decide (i ≠ x))) :
    Calls Try.prog 33 #[pt S.I (L l), pt (S.E x) 0] w fun e w' => (e = .returned (S.ec x 3)) ∧ ∃ S', Hid (Rep w0 w' S') ∧ Hid (LRem S S' K l p Q n) := by
  have hL := L_le l
  have hL' := L_ge l
  obtain ⟨xK, xE⟩ := hplt x hx
  obtain ⟨a0, A⟩ := adj_pred p K (x + 1) (by omega) (by omega) (.inr (by simpa using hx))
  obtain ⟨b0, B⟩ := adj_succ p K (x + 1) (by omega) (.inr (by simpa using hx))
  have LA := hchain _ _ A
  have LB := hchain _ _ B
  have a1 : a0 ≤ K := by have := A.1; omega
  have a2 : a0 = 0 ∨ a0 - 1 < S.nE := A.2.2.1.imp_right (fun h => (hplt _ h).2)
  have b1 : 0 < b0 := by have := B.1; omega
  have b2 : b0 = K + 1 ∨ b0 - 1 < S.nE := B.2.2.2.1.imp_right (fun h => (hplt _ h).2)
  have ec1 : S.ec x 1 = nd S l K a0 := by have := LA.2; unfold pv at this; rw [if_neg (by omega)] at this; simpa using this
  have ec0 : S.ec x 0 = nd S l K b0 := by have := LB.1; unfold nx at this; rw [if_neg (by omega)] at this; simpa using this
  have ax : a0 ≠ x + 1 := by have := A.1; omega
  have bx : b0 ≠ x + 1 := by have := B.1; omega
  have nE : ∀ c, c ≠ x + 1 → (c = 0 ∨ c = K + 1 ∨ c - 1 < S.nE) → ¬ blk S K c = S.E x := by
    intro c hc hc2 e
    unfold blk at e
    by_cases e1 : c = 0 ∨ c = K + 1
    · rw [if_pos e1] at e; exact h.sEI x xE e.symm
    · rw [if_neg e1] at e
      have h3 : c - 1 < S.nE := by omega
      have := h.sEE _ _ h3 xE e
      omega
  have oa := off_cases l K a0
  have ob := off_cases l K b0
  refine (Remove_any S.I (L l) (S.E x) (blk S K a0) (off l K a0) (blk S K b0) (off l K b0) n _ _ (S.ec x 3) w (by rw [h.iat _ (by omega), hlen]) (by omega) (by omega)
    (by rw [h.eat x xE 0 (by omega), ec0]; rfl) (by rw [h.eat x xE 1 (by omega), ec1]; rfl) (by rw [h.eat x xE 2 (by omega), hown x hx]) (h.eat x xE 3 (by omega)) (h.nxat l a1 a2).1 (h.pvat l b1 b2).1
    (nE a0 ax (by omega)) (nE b0 bx (by omega)) (fun e => h.sEI x xE e.symm) (by omega) (by omega) (by omega)
    (h.ifr _) (h.efr x xE _) (h.efr x xE _) (h.efr x xE _) (h.nxat l a1 a2).2 (h.pvat l b1 b2).2 h.ptrI).mono ?_
  rintro e w' ⟨rfl, rfl⟩
  refine ⟨rfl, ?_⟩
  have R1 := h.snx (K := K) l a1 a2 (pt (blk S K b0) (off l K b0))
  have R2 := R1.spv (K := K) l b1 b2 (pt (blk S K a0) (off l K a0))
  have R3 := R2.setE (k := x) (o := 0) xE (by omega) (.pointer none)
  have R4 := R3.setE (k := x) (o := 1) xE (by omega) (.pointer none)
  have R5 := R4.setE (k := x) (o := 2) xE (by omega) (.pointer none)
  have R6 := R5.setI (o := L l + 4) (by omega) (.int .i64 ((n : Int) - 1))
  refine ⟨_, R6.drew.drew, ⟨rfl, ?_, ?_, ?_, ?_, ?_⟩⟩
  · intro o h1 h2 h3
    show u1 (spv (snx S l a0 _) l K b0 _).ic (L l + 4) _ o = S.ic o
    simp only [u1, h3, if_false, spv, snx]
    split <;> split <;> simp [u1, h1, h2]
  · intro i o ho
    show u2 (u2 (u2 (spv (snx S l a0 _) l K b0 _).ec x 0 _) x 1 _) x 2 _ i o = S.ec i o
    have h3 : ¬ (i = x ∧ o = 0) := by rintro ⟨rfl, rfl⟩; rw [hx] at ho; simp at ho
    have h4 : ¬ (i = x ∧ o = 1) := by rintro ⟨rfl, rfl⟩; rw [hx] at ho; simp at ho
    have h5 : ¬ (i = x ∧ o = 2) := by rintro ⟨rfl, rfl⟩; rw [hx] at ho; simp at ho
    have h6 : a0 = 0 ∨ ¬ (i = a0 - 1 ∧ o = 0) := by
      rcases A.2.2.1 with e | e
      · exact .inl e
      · right; rintro ⟨rfl, rfl⟩; rw [e] at ho; simp at ho
    have h7 : b0 = K + 1 ∨ ¬ (i = b0 - 1 ∧ o = 1) := by
      rcases B.2.2.2.1 with e | e
      · exact .inl e
      · right; rintro ⟨rfl, rfl⟩; rw [e] at ho; simp at ho
    unfold u2
    rw [if_neg h5, if_neg h4, if_neg h3]
    simp only [spv, snx]
    by_cases q1 : b0 = K + 1 <;> by_cases q2 : a0 = 0
    · rw [if_pos q1, if_pos q2]
    · rw [if_pos q1, if_neg q2]; exact if_neg (h6.resolve_left q2)
    · rw [if_neg q1, if_pos q2]; exact if_neg (h7.resolve_left q1)
    · rw [if_neg q1, if_neg q2]; exact (if_neg (h7.resolve_left q1)).trans (if_neg (h6.resolve_left q2))
  · show u1 _ (L l + 4) _ (L l + 4) = _
    simp [u1]
  · intro a b hab
    have hab' := hab
    have hra : a ≤ K := by have := hab.1; have := hab.2.1; omega
    have hb0 : 0 < b := by have := hab.1; omega
    -- the cells that the last four stores leave
    have NX : ∀ T : St, ∀ v1 v2 v3 v4, nx { T with ic := u1 T.ic (L l + 4) v4, ec := u2 (u2 (u2 T.ec x 0 v1) x 1 v2) x 2 v3 } l a = if a = x + 1 then v1 else nx T l a := by
      intro T v1 v2 v3 v4
      unfold nx
      by_cases e : a = 0
      · have : ¬ 0 = x + 1 := by omega
        simp [e, u1]
      · by_cases e2 : a = x + 1
        · simp [e2, u2]
        · have : ¬ a - 1 = x := by omega
          simp [e, e2, u2, this]
    have PV : ∀ T : St, ∀ v1 v2 v3 v4, pv { T with ic := u1 T.ic (L l + 4) v4, ec := u2 (u2 (u2 T.ec x 0 v1) x 1 v2) x 2 v3 } l K b = if b = x + 1 then v2 else pv T l K b := by
      intro T v1 v2 v3 v4
      unfold pv
      by_cases e : b = K + 1
      · have : ¬ K + 1 = x + 1 := by omega
        have : ¬ K = x := by omega
        simp [e, u1, this]
      · by_cases e2 : b = x + 1
        · have : ¬ x = K := by omega
          simp [e2, u2, this]
        · have : ¬ b - 1 = x := by omega
          simp [e, e2, u2, this]
    refine ⟨(NX (spv (snx S l a0 (pt (blk S K b0) (off l K b0))) l K b0 (pt (blk S K a0) (off l K a0))) _ _ _ _).trans ?_, (PV (spv (snx S l a0 (pt (blk S K b0) (off l K b0))) l K b0 (pt (blk S K a0) (off l K a0))) _ _ _ _).trans ?_⟩
    · rw [nx_spv, nx_snx]
      rcases adj_remove xK hQ A B hab with ⟨rfl, rfl⟩ | ⟨g1, g2, g3, g4, g5⟩
      · rw [if_neg ax, if_pos rfl]; rfl
      · rw [if_neg g4, if_neg g2]; exact (hchain _ _ g1).1
    · rw [pv_spv _ _ _ _ _ _ b1 hb0, pv_snx]
      rcases adj_remove xK hQ A B hab with ⟨rfl, rfl⟩ | ⟨g1, g2, g3, g4, g5⟩
      · rw [if_neg bx, if_pos rfl]; rfl
      · rw [if_neg g5, if_neg g3]; exact (hchain _ _ g1).2
  · intro i hi
    rw [hQ] at hi
    have hi2 : p i = true ∧ i ≠ x := by simpa using hi
    show u2 (u2 (u2 (spv (snx S l a0 _) l K b0 _).ec x 0 _) x 1 _) x 2 _ i 2 = pt S.I (L l)
    simp only [u2, hi2.2, false_and, if_false, spv, snx]
    rw [← hown i hi2.1]
    split <;> split <;> simp [u2]
end Go.Proofs.Qxb6616981a
