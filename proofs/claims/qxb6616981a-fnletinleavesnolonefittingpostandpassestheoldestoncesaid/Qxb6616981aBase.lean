/-
  THE MEMORY OF AN INTAKE AS TYPED CELLS: the intake's own block, the waiters', the list elements', the two heap rows, the channels. Each store is one law.
-/
import Derived.Test.Qxb6616981aRows
import Derived.WalkKit
import Derived.WalkSpells
import Derived.WalkLawsBesides
import Derived.WalkSmall
import Derived.Below
import Derived.Handy
import Derived.BigQuiet
import Derived.Deep.QuietTactic
import Derived.Deep.DeepCutAuto
import Derived.Conc.LoneSelect
namespace Go.Proofs.Qxb6616981a
open Go.RowKit

abbrev pt (b o : Nat) : Value := .pointer (some ⟨b, o, none⟩)

def u1 (f : Nat → Value) (o : Nat) (v : Value) : Nat → Value := fun x => if x = o then v else f x
def u2 (f : Nat → Nat → Value) (i o : Nat) (v : Value) : Nat → Nat → Value := fun x y => if x = i ∧ y = o then v else f x y
def uh (f : Bool → Nat → Value) (l : Bool) (o : Nat) (v : Value) : Bool → Nat → Value := fun x y => if x = l ∧ y = o then v else f x y

/-- The typed cells, and where they lie. -/
structure St where
  I : Nat
  W : Nat → Nat
  E : Nat → Nat
  Ch : Nat → Nat
  G : Bool → Nat
  nW : Nat
  nE : Nat
  cap : Bool → Nat
  ic : Nat → Value
  wc : Nat → Nat → Value
  ec : Nat → Nat → Value
  hc : Bool → Nat → Value
  shut : Nat → Bool
  V : Nat
  nV : Nat
  vc : Nat → Value

structure Rep (w0 w : World) (S : St) : Prop where
  bel : Below w0.heap.size w0 w
  iat : ∀ o, o < 22 → w.cell? ⟨S.I, o, none⟩ = some (S.ic o)
  ifr : ∀ o, w.frozen? ⟨S.I, o, none⟩ = false
  ige : w0.heap.size ≤ S.I
  wat : ∀ i, i < S.nW → ∀ o, o < 5 → w.cell? ⟨S.W i, o, none⟩ = some (S.wc i o)
  wfr : ∀ i, i < S.nW → ∀ o, w.frozen? ⟨S.W i, o, none⟩ = false
  wge : ∀ i, i < S.nW → w0.heap.size ≤ S.W i
  eat : ∀ i, i < S.nE → ∀ o, o < 4 → w.cell? ⟨S.E i, o, none⟩ = some (S.ec i o)
  efr : ∀ i, i < S.nE → ∀ o, w.frozen? ⟨S.E i, o, none⟩ = false
  ege : ∀ i, i < S.nE → w0.heap.size ≤ S.E i
  hat : ∀ l j, j < S.cap l → w.cell? ⟨S.G l, j, none⟩ = some (S.hc l j)
  hfr : ∀ l, 0 < S.cap l → ∀ j, w.frozen? ⟨S.G l, j, none⟩ = false
  hge : ∀ l, 0 < S.cap l → w0.heap.size ≤ S.G l
  chan : ∀ i, i < S.nW → w0.heap.size ≤ S.Ch i ∧ w.heap[S.Ch i]? = some (.chan 0 #[] (S.shut i) 0 0 false)
  chinj : ∀ i j, i < S.nW → j < S.nW → S.Ch i = S.Ch j → i = j
  sWI : ∀ i, i < S.nW → S.W i ≠ S.I
  sEI : ∀ i, i < S.nE → S.E i ≠ S.I
  sWE : ∀ i j, i < S.nW → j < S.nE → S.W i ≠ S.E j
  sWW : ∀ i j, i < S.nW → j < S.nW → S.W i = S.W j → i = j
  sEE : ∀ i j, i < S.nE → j < S.nE → S.E i = S.E j → i = j
  sGI : ∀ l, 0 < S.cap l → S.G l ≠ S.I
  sGW : ∀ l i, 0 < S.cap l → i < S.nW → S.G l ≠ S.W i
  sGE : ∀ l i, 0 < S.cap l → i < S.nE → S.G l ≠ S.E i
  sGG : ∀ l l', 0 < S.cap l → 0 < S.cap l' → S.G l = S.G l' → l = l'
  vat : ∀ j, j < S.nV → w.cell? ⟨S.V, j, none⟩ = some (S.vc j)
  vfr : 0 < S.nV → ∀ j, w.frozen? ⟨S.V, j, none⟩ = false
  vge : 0 < S.nV → w0.heap.size ≤ S.V
  sVI : 0 < S.nV → S.V ≠ S.I
  sVW : 0 < S.nV → ∀ i, i < S.nW → S.V ≠ S.W i
  sVE : 0 < S.nV → ∀ i, i < S.nE → S.V ≠ S.E i
  sVG : 0 < S.nV → ∀ l, 0 < S.cap l → S.V ≠ S.G l

variable {w0 w w' : World} {S : St}

theorem cell_other {w : World} {b o b' o' : Nat} {v : Value} (h : b' ≠ b ∨ o' ≠ o) : (w.setCell ⟨b, o, none⟩ v).cell? ⟨b', o', none⟩ = w.cell? ⟨b', o', none⟩ :=
  World.cell?_setCell_other _ _ _ _ (by intro e; cases e; rcases h with h | h <;> exact h rfl)
theorem cell_same {w : World} {b o : Nat} {u v : Value} (h : w.cell? ⟨b, o, none⟩ = some u) : (w.setCell ⟨b, o, none⟩ v).cell? ⟨b, o, none⟩ = some v := World.cell?_setCell_same _ _ _ h
theorem fr_set {w : World} {b o b' o' : Nat} {v : Value} : (w.setCell ⟨b, o, none⟩ v).frozen? ⟨b', o', none⟩ = w.frozen? ⟨b', o', none⟩ := World.frozen?_setCell _ _ _ _
theorem chan_not_cell {w : World} {b o b' : Nat} {u : Value} {c s r : Nat} {bf : Array Value} {cl tm : Bool} (h : w.cell? ⟨b, o, none⟩ = some u) (hc : w.heap[b']? = some (.chan c bf cl s r tm)) : b' ≠ b := by
  rintro rfl
  simp [World.cell?, hc] at h
theorem chan_set {w : World} {b o b' : Nat} {u v : Value} {c s r : Nat} {bf : Array Value} {cl tm : Bool} (h : w.cell? ⟨b, o, none⟩ = some u) (hc : w.heap[b']? = some (.chan c bf cl s r tm)) : (w.setCell ⟨b, o, none⟩ v).heap[b']? = some (.chan c bf cl s r tm) := by
  rw [Below.heap_setCell _ _ _ _ (chan_not_cell h hc)]; exact hc

theorem Rep.wlt (h : Rep w0 w S) {i : Nat} (hi : i < S.nW) : S.W i < w.heap.size := World.block_lt_of_cell? _ _ (h.wat i hi 0 (by omega))
theorem Rep.elt (h : Rep w0 w S) {i : Nat} (hi : i < S.nE) : S.E i < w.heap.size := World.block_lt_of_cell? _ _ (h.eat i hi 0 (by omega))
theorem Rep.ilt (h : Rep w0 w S) : S.I < w.heap.size := World.block_lt_of_cell? _ _ (h.iat 0 (by omega))
theorem Rep.glt (h : Rep w0 w S) {l : Bool} (hl : 0 < S.cap l) : S.G l < w.heap.size := World.block_lt_of_cell? _ _ (h.hat l 0 hl)
theorem Rep.vlt (h : Rep w0 w S) (hv : 0 < S.nV) : S.V < w.heap.size := World.block_lt_of_cell? _ _ (h.vat 0 hv)
theorem Rep.clt (h : Rep w0 w S) {i : Nat} (hi : i < S.nW) : S.Ch i < w.heap.size := by
  rcases Nat.lt_or_ge (S.Ch i) w.heap.size with h1 | h1
  · exact h1
  · have := (h.chan i hi).2; rw [Array.getElem?_eq_none h1] at this; cases this

theorem Rep.setI (h : Rep w0 w S) {o : Nat} (ho : o < 22) (v : Value) : Rep w0 (w.setCell ⟨S.I, o, none⟩ v) { S with ic := u1 S.ic o v } := by
  have hc := h.iat o ho
  exact { h with
    bel := h.bel.setCell h.ige _
    iat := fun o' ho' => by
      by_cases e : o' = o
      · subst e; rw [cell_same hc]; simp [u1]
      · rw [cell_other (.inr e), h.iat o' ho']; simp [u1, e]
    ifr := fun o' => by rw [fr_set]; exact h.ifr o'
    wat := fun i hi o' ho' => by rw [cell_other (.inl (h.sWI i hi))]; exact h.wat i hi o' ho'
    wfr := fun i hi o' => by rw [fr_set]; exact h.wfr i hi o'
    eat := fun i hi o' ho' => by rw [cell_other (.inl (h.sEI i hi))]; exact h.eat i hi o' ho'
    efr := fun i hi o' => by rw [fr_set]; exact h.efr i hi o'
    hat := fun l j hj => by rw [cell_other (.inl (h.sGI l (by have hj : j < S.cap l := hj; omega)))]; exact h.hat l j hj
    hfr := fun l hl j => by rw [fr_set]; exact h.hfr l hl j
    vat := fun j hj => by rw [cell_other (.inl (h.sVI (by have hj : j < S.nV := hj; omega)))]; exact h.vat j hj
    vfr := fun hv j => by rw [fr_set]; exact h.vfr hv j
    chan := fun i hi => ⟨(h.chan i hi).1, chan_set hc (h.chan i hi).2⟩ }

theorem Rep.setW (h : Rep w0 w S) {k o : Nat} (hk : k < S.nW) (ho : o < 5) (v : Value) : Rep w0 (w.setCell ⟨S.W k, o, none⟩ v) { S with wc := u2 S.wc k o v } := by
  have hc := h.wat k hk o ho
  exact { h with
    bel := h.bel.setCell (h.wge k hk) _
    iat := fun o' ho' => by rw [cell_other (.inl (h.sWI k hk).symm)]; exact h.iat o' ho'
    ifr := fun o' => by rw [fr_set]; exact h.ifr o'
    wat := fun i hi o' ho' => by
      by_cases e : i = k
      · subst e
        by_cases e2 : o' = o
        · subst e2; rw [cell_same hc]; simp [u2]
        · rw [cell_other (.inr e2), h.wat i hi o' ho']; simp [u2, e2]
      · rw [cell_other (.inl (fun e2 => e (h.sWW i k hi hk e2))), h.wat i hi o' ho']; simp [u2, e]
    wfr := fun i hi o' => by rw [fr_set]; exact h.wfr i hi o'
    eat := fun i hi o' ho' => by rw [cell_other (.inl (h.sWE k i hk hi).symm)]; exact h.eat i hi o' ho'
    efr := fun i hi o' => by rw [fr_set]; exact h.efr i hi o'
    hat := fun l j hj => by rw [cell_other (.inl (h.sGW l k (by have hj : j < S.cap l := hj; omega) hk))]; exact h.hat l j hj
    hfr := fun l hl j => by rw [fr_set]; exact h.hfr l hl j
    vat := fun j hj => by rw [cell_other (.inl (h.sVW (by have hj : j < S.nV := hj; omega) k hk))]; exact h.vat j hj
    vfr := fun hv j => by rw [fr_set]; exact h.vfr hv j
    chan := fun i hi => ⟨(h.chan i hi).1, chan_set hc (h.chan i hi).2⟩ }

theorem Rep.setE (h : Rep w0 w S) {k o : Nat} (hk : k < S.nE) (ho : o < 4) (v : Value) : Rep w0 (w.setCell ⟨S.E k, o, none⟩ v) { S with ec := u2 S.ec k o v } := by
  have hc := h.eat k hk o ho
  exact { h with
    bel := h.bel.setCell (h.ege k hk) _
    iat := fun o' ho' => by rw [cell_other (.inl (h.sEI k hk).symm)]; exact h.iat o' ho'
    ifr := fun o' => by rw [fr_set]; exact h.ifr o'
    wat := fun i hi o' ho' => by rw [cell_other (.inl (h.sWE i k hi hk))]; exact h.wat i hi o' ho'
    wfr := fun i hi o' => by rw [fr_set]; exact h.wfr i hi o'
    eat := fun i hi o' ho' => by
      by_cases e : i = k
      · subst e
        by_cases e2 : o' = o
        · subst e2; rw [cell_same hc]; simp [u2]
        · rw [cell_other (.inr e2), h.eat i hi o' ho']; simp [u2, e2]
      · rw [cell_other (.inl (fun e2 => e (h.sEE i k hi hk e2))), h.eat i hi o' ho']; simp [u2, e]
    efr := fun i hi o' => by rw [fr_set]; exact h.efr i hi o'
    hat := fun l j hj => by rw [cell_other (.inl (h.sGE l k (by have hj : j < S.cap l := hj; omega) hk))]; exact h.hat l j hj
    hfr := fun l hl j => by rw [fr_set]; exact h.hfr l hl j
    vat := fun j hj => by rw [cell_other (.inl (h.sVE (by have hj : j < S.nV := hj; omega) k hk))]; exact h.vat j hj
    vfr := fun hv j => by rw [fr_set]; exact h.vfr hv j
    chan := fun i hi => ⟨(h.chan i hi).1, chan_set hc (h.chan i hi).2⟩ }

theorem Rep.setH (h : Rep w0 w S) {l : Bool} {o : Nat} (ho : o < S.cap l) (v : Value) : Rep w0 (w.setCell ⟨S.G l, o, none⟩ v) { S with hc := uh S.hc l o v } := by
  have hc := h.hat l o ho
  have hl : 0 < S.cap l := by omega
  exact { h with
    bel := h.bel.setCell (h.hge l hl) _
    iat := fun o' ho' => by rw [cell_other (.inl (h.sGI l hl).symm)]; exact h.iat o' ho'
    ifr := fun o' => by rw [fr_set]; exact h.ifr o'
    wat := fun i hi o' ho' => by rw [cell_other (.inl (h.sGW l i hl hi).symm)]; exact h.wat i hi o' ho'
    wfr := fun i hi o' => by rw [fr_set]; exact h.wfr i hi o'
    eat := fun i hi o' ho' => by rw [cell_other (.inl (h.sGE l i hl hi).symm)]; exact h.eat i hi o' ho'
    efr := fun i hi o' => by rw [fr_set]; exact h.efr i hi o'
    hat := fun l' j hj => by
      have hj : j < S.cap l' := hj
      by_cases e : l' = l
      · subst e
        by_cases e2 : j = o
        · subst e2; rw [cell_same hc]; simp [uh]
        · rw [cell_other (.inr e2), h.hat l' j hj]; simp [uh, e2]
      · rw [cell_other (.inl (fun e2 => e (h.sGG l' l (by omega) hl e2))), h.hat l' j hj]; simp [uh, e]
    hfr := fun l hl j => by rw [fr_set]; exact h.hfr l hl j
    vat := fun j hj => by rw [cell_other (.inl (h.sVG (by have hj : j < S.nV := hj; omega) l hl))]; exact h.vat j hj
    vfr := fun hv j => by rw [fr_set]; exact h.vfr hv j
    chan := fun i hi => ⟨(h.chan i hi).1, chan_set hc (h.chan i hi).2⟩ }

theorem Rep.setV (h : Rep w0 w S) {o : Nat} (ho : o < S.nV) (v : Value) : Rep w0 (w.setCell ⟨S.V, o, none⟩ v) { S with vc := u1 S.vc o v } := by
  have hc := h.vat o ho
  have hv : 0 < S.nV := by omega
  exact { h with
    bel := h.bel.setCell (h.vge hv) _
    iat := fun o' ho' => by rw [cell_other (.inl (h.sVI hv).symm)]; exact h.iat o' ho'
    ifr := fun o' => by rw [fr_set]; exact h.ifr o'
    wat := fun i hi o' ho' => by rw [cell_other (.inl (h.sVW hv i hi).symm)]; exact h.wat i hi o' ho'
    wfr := fun i hi o' => by rw [fr_set]; exact h.wfr i hi o'
    eat := fun i hi o' ho' => by rw [cell_other (.inl (h.sVE hv i hi).symm)]; exact h.eat i hi o' ho'
    efr := fun i hi o' => by rw [fr_set]; exact h.efr i hi o'
    hat := fun l j hj => by rw [cell_other (.inl (h.sVG hv l (by have hj : j < S.cap l := hj; omega)).symm)]; exact h.hat l j hj
    hfr := fun l hl j => by rw [fr_set]; exact h.hfr l hl j
    vat := fun j hj => by
      by_cases e : j = o
      · subst e; rw [cell_same hc]; simp [u1]
      · rw [cell_other (.inr e), h.vat j hj]; simp [u1, e]
    vfr := fun hv j => by rw [fr_set]; exact h.vfr hv j
    chan := fun i hi => ⟨(h.chan i hi).1, chan_set hc (h.chan i hi).2⟩ }

/-- Whatever keeps the blocks that are there keeps it all. -/
theorem Rep.below (h : Rep w0 w S) (hb : Below w.heap.size w w') : Rep w0 w' S := by
  have hc : ∀ b o, b < w.heap.size → w'.cell? ⟨b, o, none⟩ = w.cell? ⟨b, o, none⟩ := fun b o hlt => hb.cell (p := ⟨b, o, none⟩) hlt
  have hf : ∀ b o, b < w.heap.size → w'.frozen? ⟨b, o, none⟩ = w.frozen? ⟨b, o, none⟩ := fun b o hlt => hb.frozen (p := ⟨b, o, none⟩) hlt
  exact { h with
    bel := h.bel.trans (hb.mono h.bel.size)
    iat := fun o ho => by rw [hc _ _ h.ilt]; exact h.iat o ho
    ifr := fun o => by rw [hf _ _ h.ilt]; exact h.ifr o
    wat := fun i hi o ho => by rw [hc _ _ (h.wlt hi)]; exact h.wat i hi o ho
    wfr := fun i hi o => by rw [hf _ _ (h.wlt hi)]; exact h.wfr i hi o
    eat := fun i hi o ho => by rw [hc _ _ (h.elt hi)]; exact h.eat i hi o ho
    efr := fun i hi o => by rw [hf _ _ (h.elt hi)]; exact h.efr i hi o
    hat := fun l j hj => by rw [hc _ _ (h.glt (by omega))]; exact h.hat l j hj
    hfr := fun l hl j => by rw [hf _ _ (h.glt hl)]; exact h.hfr l hl j
    vat := fun j hj => by rw [hc _ _ (h.vlt (by omega))]; exact h.vat j hj
    vfr := fun hv j => by rw [hf _ _ (h.vlt hv)]; exact h.vfr hv j
    chan := fun i hi => ⟨(h.chan i hi).1, by rw [hb.block _ (h.clt hi)]; exact (h.chan i hi).2⟩ }

theorem Rep.drewN (h : Rep w0 w S) (q : Nat) : Rep w0 (w.drewN q) S := h.below (below_drewN (Below.refl _ _) q)
theorem Rep.drew (h : Rep w0 w S) : Rep w0 w.drew S := h.below ⟨rfl, rfl, rfl, Nat.le_refl _, fun _ _ => rfl⟩
theorem Rep.alloc (h : Rep w0 w S) (o : Obj) : Rep w0 (w.alloc o) S := h.below ((Below.refl _ _).alloc (Nat.le_refl _) _)
end Go.Proofs.Qxb6616981a
