/-
  THE MEMORY GROWS: a new heap row, a new list element, a new waiter with its channel; a channel is closed.
-/
import Derived.Test.Qxb6616981aBase
namespace Go.Proofs.Qxb6616981a
open Go.RowKit

def ul {α : Type} (f : Bool → α) (l : Bool) (v : α) : Bool → α := fun x => if x = l then v else f x
def un {α : Type} (f : Nat → α) (i : Nat) (v : α) : Nat → α := fun x => if x = i then v else f x

variable {w0 w w' : World} {S : St}

/-- The fields of the new block, out of its array. -/
def arrAt (arr : Array Value) (j : Nat) : Value := (arr[j]?).getD undef

theorem arr_cell (w : World) (arr : Array Value) (t : TypeId) {j : Nat} (hj : j < arr.size) : (w.alloc (.cells arr t)).cell? ⟨w.heap.size, j, none⟩ = some (arrAt arr j) := by
  rw [World.cell?_alloc_at _ _ _ _ rfl]
  simp [arrAt, hj]
theorem arr_frozen (w : World) (arr : Array Value) (t : TypeId) {j : Nat} : (w.alloc (.cells arr t)).frozen? ⟨w.heap.size, j, none⟩ = false := by
  rw [World.frozen?_alloc_at _ _ _ _ rfl]

theorem Rep.newRow (h : Rep w0 w S) (l : Bool) (arr : Array Value) (t : TypeId) :
    Rep w0 (w.alloc (.cells arr t)) { S with G := ul S.G l w.heap.size, cap := ul S.cap l arr.size, hc := ul S.hc l (arrAt arr) } := by
  have ha := h.alloc (.cells arr t)
  have hsz : w0.heap.size ≤ w.heap.size := h.bel.size
  exact { ha with
    hat := fun l' j hj => by
      show (w.alloc _).cell? ⟨ul S.G l w.heap.size l', j, none⟩ = some (ul S.hc l (arrAt arr) l' j)
      have hj : j < ul S.cap l arr.size l' := hj
      unfold ul at hj ⊢
      by_cases e : l' = l
      · simp only [e, if_true] at hj ⊢; exact arr_cell w arr t hj
      · simp only [e, if_false] at hj ⊢; exact ha.hat l' j hj
    hfr := fun l' hl j => by
      show (w.alloc _).frozen? ⟨ul S.G l w.heap.size l', j, none⟩ = false
      have hl : 0 < ul S.cap l arr.size l' := hl
      unfold ul at hl ⊢
      by_cases e : l' = l
      · simp only [e, if_true]; exact arr_frozen w arr t
      · simp only [e, if_false] at hl ⊢; exact ha.hfr l' hl j
    hge := fun l' hl => by
      show _ ≤ ul S.G l w.heap.size l'
      have hl : 0 < ul S.cap l arr.size l' := hl
      unfold ul at hl ⊢
      by_cases e : l' = l
      · simp only [e, if_true]; exact hsz
      · simp only [e, if_false] at hl ⊢; exact h.hge l' hl
    sGI := fun l' hl => by
      show ul S.G l w.heap.size l' ≠ S.I
      have hl : 0 < ul S.cap l arr.size l' := hl
      unfold ul at hl ⊢
      by_cases e : l' = l
      · simp only [e, if_true]; have := h.ilt; omega
      · simp only [e, if_false] at hl ⊢; exact h.sGI l' hl
    sGW := fun l' i hl hi => by
      show ul S.G l w.heap.size l' ≠ S.W i
      have hl : 0 < ul S.cap l arr.size l' := hl
      unfold ul at hl ⊢
      by_cases e : l' = l
      · simp only [e, if_true]; have := h.wlt hi; omega
      · simp only [e, if_false] at hl ⊢; exact h.sGW l' i hl hi
    sGE := fun l' i hl hi => by
      show ul S.G l w.heap.size l' ≠ S.E i
      have hl : 0 < ul S.cap l arr.size l' := hl
      unfold ul at hl ⊢
      by_cases e : l' = l
      · simp only [e, if_true]; have := h.elt hi; omega
      · simp only [e, if_false] at hl ⊢; exact h.sGE l' i hl hi
    sVG := fun hv l' hl => by
      show S.V ≠ ul S.G l w.heap.size l'
      have hl : 0 < ul S.cap l arr.size l' := hl
      unfold ul at hl ⊢
      by_cases e : l' = l
      · simp only [e, if_true]; have := h.vlt hv; omega
      · simp only [e, if_false] at hl ⊢; exact h.sVG hv l' hl
    sGG := fun l1 l2 h1 h2 he => by
      have h1 : 0 < ul S.cap l arr.size l1 := h1
      have h2 : 0 < ul S.cap l arr.size l2 := h2
      have he : ul S.G l w.heap.size l1 = ul S.G l w.heap.size l2 := he
      unfold ul at h1 h2 he
      by_cases e1 : l1 = l <;> by_cases e2 : l2 = l
      · rw [e1, e2]
      · simp only [e1, if_true, e2, if_false] at h1 h2 he; have := h.glt h2; omega
      · simp only [e1, if_true, e2, if_false] at h1 h2 he; have := h.glt h1; omega
      · simp only [e1, e2, if_false] at h1 h2 he; exact h.sGG l1 l2 h1 h2 he }

theorem Rep.newE (h : Rep w0 w S) (arr : Array Value) (t : TypeId) (hs : arr.size = 4) :
    Rep w0 (w.alloc (.cells arr t)) { S with E := un S.E S.nE w.heap.size, nE := S.nE + 1, ec := un S.ec S.nE (arrAt arr) } := by
  have ha := h.alloc (.cells arr t)
  have hsz : w0.heap.size ≤ w.heap.size := h.bel.size
  have hlt : ∀ i, i < S.nE + 1 → i ≠ S.nE → i < S.nE := fun i _ _ => by omega
  exact { ha with
    eat := fun i hi o ho => by
      show (w.alloc _).cell? ⟨un S.E S.nE w.heap.size i, o, none⟩ = some (un S.ec S.nE (arrAt arr) i o)
      unfold un
      by_cases e : i = S.nE
      · simp only [e, if_true]; exact arr_cell w arr t (by omega)
      · simp only [e, if_false]; exact ha.eat i (hlt i hi e) o ho
    efr := fun i hi o => by
      show (w.alloc _).frozen? ⟨un S.E S.nE w.heap.size i, o, none⟩ = false
      unfold un
      by_cases e : i = S.nE
      · simp only [e, if_true]; exact arr_frozen w arr t
      · simp only [e, if_false]; exact ha.efr i (hlt i hi e) o
    ege := fun i hi => by
      show _ ≤ un S.E S.nE w.heap.size i
      unfold un
      by_cases e : i = S.nE
      · simp only [e, if_true]; exact hsz
      · simp only [e, if_false]; exact h.ege i (hlt i hi e)
    sEI := fun i hi => by
      show un S.E S.nE w.heap.size i ≠ S.I
      unfold un
      by_cases e : i = S.nE
      · simp only [e, if_true]; have := h.ilt; omega
      · simp only [e, if_false]; exact h.sEI i (hlt i hi e)
    sWE := fun i j hi hj => by
      show S.W i ≠ un S.E S.nE w.heap.size j
      unfold un
      by_cases e : j = S.nE
      · simp only [e, if_true]; have := h.wlt hi; omega
      · simp only [e, if_false]; exact h.sWE i j hi (hlt j hj e)
    sEE := fun i j hi hj he => by
      have he : un S.E S.nE w.heap.size i = un S.E S.nE w.heap.size j := he
      unfold un at he
      by_cases e1 : i = S.nE <;> by_cases e2 : j = S.nE
      · rw [e1, e2]
      · simp only [e1, if_true, e2, if_false] at he; have := h.elt (hlt j hj e2); omega
      · simp only [e1, if_true, e2, if_false] at he; have := h.elt (hlt i hi e1); omega
      · simp only [e1, e2, if_false] at he; exact h.sEE i j (hlt i hi e1) (hlt j hj e2) he
    sVE := fun hv i hi => by
      show S.V ≠ un S.E S.nE w.heap.size i
      unfold un
      by_cases e : i = S.nE
      · simp only [e, if_true]; have := h.vlt hv; omega
      · simp only [e, if_false]; exact h.sVE hv i (hlt i hi e)
    sGE := fun l i hl hi => by
      show S.G l ≠ un S.E S.nE w.heap.size i
      unfold un
      by_cases e : i = S.nE
      · simp only [e, if_true]; have := h.glt hl; omega
      · simp only [e, if_false]; exact h.sGE l i hl (hlt i hi e) }

/-- A new waiter: its block lies at wb, its channel at cb, both past what was there. -/
theorem Rep.newW (h : Rep w0 w S) (hb : Below w.heap.size w w') (wb cb : Nat) (v : Nat → Value) (h1 : w.heap.size ≤ wb) (h2 : w.heap.size ≤ cb) (hc : ∀ o, o < 5 → w'.cell? ⟨wb, o, none⟩ = some (v o)) (hf : ∀ o, w'.frozen? ⟨wb, o, none⟩ = false)
    (hch : w'.heap[cb]? = some (.chan 0 #[] false 0 0 false)) :
    Rep w0 w' { S with W := un S.W S.nW wb, Ch := un S.Ch S.nW cb, nW := S.nW + 1, wc := un S.wc S.nW v, shut := un S.shut S.nW false } := by
  have ha := h.below hb
  have hsz : w0.heap.size ≤ w.heap.size := h.bel.size
  have hlt : ∀ i, i < S.nW + 1 → i ≠ S.nW → i < S.nW := fun i _ _ => by omega
  exact { ha with
    wat := fun i hi o ho => by
      show w'.cell? ⟨un S.W S.nW wb i, o, none⟩ = some (un S.wc S.nW v i o)
      unfold un
      by_cases e : i = S.nW
      · simp only [e, if_true]; exact hc o ho
      · simp only [e, if_false]; exact ha.wat i (hlt i hi e) o ho
    wfr := fun i hi o => by
      show w'.frozen? ⟨un S.W S.nW wb i, o, none⟩ = false
      unfold un
      by_cases e : i = S.nW
      · simp only [e, if_true]; exact hf o
      · simp only [e, if_false]; exact ha.wfr i (hlt i hi e) o
    wge := fun i hi => by
      show _ ≤ un S.W S.nW wb i
      unfold un
      by_cases e : i = S.nW
      · simp only [e, if_true]; omega
      · simp only [e, if_false]; exact h.wge i (hlt i hi e)
    chan := fun i hi => by
      show w0.heap.size ≤ un S.Ch S.nW cb i ∧ w'.heap[un S.Ch S.nW cb i]? = some (.chan 0 #[] (un S.shut S.nW false i) 0 0 false)
      unfold un
      by_cases e : i = S.nW
      · simp only [e, if_true]; exact ⟨by omega, hch⟩
      · simp only [e, if_false]; exact ha.chan i (hlt i hi e)
    chinj := fun i j hi hj he => by
      have he : un S.Ch S.nW cb i = un S.Ch S.nW cb j := he
      unfold un at he
      by_cases e1 : i = S.nW <;> by_cases e2 : j = S.nW
      · rw [e1, e2]
      · simp only [e1, if_true, e2, if_false] at he; have := h.clt (hlt j hj e2); omega
      · simp only [e1, if_true, e2, if_false] at he; have := h.clt (hlt i hi e1); omega
      · simp only [e1, e2, if_false] at he; exact h.chinj i j (hlt i hi e1) (hlt j hj e2) he
    sWI := fun i hi => by
      show un S.W S.nW wb i ≠ S.I
      unfold un
      by_cases e : i = S.nW
      · simp only [e, if_true]; have := h.ilt; omega
      · simp only [e, if_false]; exact h.sWI i (hlt i hi e)
    sWE := fun i j hi hj => by
      show un S.W S.nW wb i ≠ S.E j
      unfold un
      by_cases e : i = S.nW
      · simp only [e, if_true]; have := h.elt hj; omega
      · simp only [e, if_false]; exact h.sWE i j (hlt i hi e) hj
    sWW := fun i j hi hj he => by
      have he : un S.W S.nW wb i = un S.W S.nW wb j := he
      unfold un at he
      by_cases e1 : i = S.nW <;> by_cases e2 : j = S.nW
      · rw [e1, e2]
      · simp only [e1, if_true, e2, if_false] at he; have := h.wlt (hlt j hj e2); omega
      · simp only [e1, if_true, e2, if_false] at he; have := h.wlt (hlt i hi e1); omega
      · simp only [e1, e2, if_false] at he; exact h.sWW i j (hlt i hi e1) (hlt j hj e2) he
    sVW := fun hv i hi => by
      show S.V ≠ un S.W S.nW wb i
      unfold un
      by_cases e : i = S.nW
      · simp only [e, if_true]; have := h.vlt hv; omega
      · simp only [e, if_false]; exact h.sVW hv i (hlt i hi e)
    sGW := fun l i hl hi => by
      show S.G l ≠ un S.W S.nW wb i
      unfold un
      by_cases e : i = S.nW
      · simp only [e, if_true]; have := h.glt hl; omega
      · simp only [e, if_false]; exact h.sGW l i hl (hlt i hi e) }

/-- A channel is closed: one block changes, and it is no block of cells. -/
theorem Rep.close (h : Rep w0 w S) {k : Nat} (hk : k < S.nW) (hsame : ∀ b, b ≠ S.Ch k → w'.heap[b]? = w.heap[b]?) (hnew : w'.heap[S.Ch k]? = some (.chan 0 #[] true 0 0 false)) (hbel : Below w0.heap.size w0 w') :
    Rep w0 w' { S with shut := un S.shut k true } := by
  have hnc : ∀ b o v, w.cell? ⟨b, o, none⟩ = some v → b ≠ S.Ch k := fun b o v hc => (chan_not_cell hc (h.chan k hk).2).symm
  have hcell : ∀ b o, b ≠ S.Ch k → w'.cell? ⟨b, o, none⟩ = w.cell? ⟨b, o, none⟩ := fun b o hb => by simp only [World.cell?, hsame b hb]
  have hfrz : ∀ b o, b ≠ S.Ch k → w'.frozen? ⟨b, o, none⟩ = w.frozen? ⟨b, o, none⟩ := fun b o hb => by simp only [World.frozen?, hsame b hb]
  exact { h with
    bel := hbel
    iat := fun o ho => by rw [hcell _ _ (hnc _ _ _ (h.iat o ho))]; exact h.iat o ho
    ifr := fun o => by rw [hfrz _ _ (hnc _ _ _ (h.iat 0 (by omega)))]; exact h.ifr o
    wat := fun i hi o ho => by rw [hcell _ _ (hnc _ _ _ (h.wat i hi o ho))]; exact h.wat i hi o ho
    wfr := fun i hi o => by rw [hfrz _ _ (hnc _ _ _ (h.wat i hi 0 (by omega)))]; exact h.wfr i hi o
    eat := fun i hi o ho => by rw [hcell _ _ (hnc _ _ _ (h.eat i hi o ho))]; exact h.eat i hi o ho
    efr := fun i hi o => by rw [hfrz _ _ (hnc _ _ _ (h.eat i hi 0 (by omega)))]; exact h.efr i hi o
    hat := fun l j hj => by rw [hcell _ _ (hnc _ _ _ (h.hat l j hj))]; exact h.hat l j hj
    hfr := fun l hl j => by rw [hfrz _ _ (hnc _ _ _ (h.hat l 0 hl))]; exact h.hfr l hl j
    vat := fun j hj => by rw [hcell _ _ (hnc _ _ _ (h.vat j hj))]; exact h.vat j hj
    vfr := fun hv j => by rw [hfrz _ _ (hnc _ _ _ (h.vat 0 hv))]; exact h.vfr hv j
    chan := fun i hi => by
      refine ⟨(h.chan i hi).1, ?_⟩
      show w'.heap[S.Ch i]? = some (.chan 0 #[] (un S.shut k true i) 0 0 false)
      unfold un
      by_cases e : i = k
      · simp only [e, if_true]; exact hnew
      · simp only [e, if_false]; rw [hsame _ (fun e2 => e (h.chinj i k hi hk e2))]; exact (h.chan i hi).2 }
end Go.Proofs.Qxb6616981a
