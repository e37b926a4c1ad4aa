/-
  A LANE ON THE TYPED CELLS: its linked list in the order of arrival, its heap, its flag. oldest, next.
-/
import Derived.Test.Qxb6616981aCells
import Derived.Test.Qxb6616981aHrem
import Derived.Test.Qxb6616981aPlain
import Derived.Test.Qxb6616981aPush
namespace Go.Proofs.Qxb6616981a
open Go.RowKit

def nx (S : St) (l : Bool) (a : Nat) : Value := if a = 0 then S.ic (L l) else S.ec (a - 1) 0
def pv (S : St) (l : Bool) (K b : Nat) : Value := if b = K + 1 then S.ic (L l + 1) else S.ec (b - 1) 1
def blk (S : St) (K a : Nat) : Nat := if a = 0 ∨ a = K + 1 then S.I else S.E (a - 1)
def off (l : Bool) (K a : Nat) : Nat := if a = 0 ∨ a = K + 1 then L l else 0
def nd (S : St) (l : Bool) (K a : Nat) : Value := pt (blk S K a) (off l K a)
def lk (S : St) (l : Bool) (K a b : Nat) : Prop := nx S l a = nd S l K b ∧ pv S l K b = nd S l K a

structure LaneAt (S : St) (K : Nat) (sz : Nat → Int) (l : Bool) (p : Nat → Bool) (fg : Bool) (f : Nat → Nat) (n : Nat) : Prop where
  plt : ∀ i, p i = true → i < K ∧ i < S.nE ∧ i < S.nW
  num : n = cnt p K
  len : S.ic (L l + 4) = .int .i64 n
  flag : S.ic (L l + 6) = .bool fg
  hdr0 : n = 0 → ∃ v c, S.ic (L l + 5) = .slice v 0 c
  heap : 0 < n → HeapAt S l f n
  mem : Hp.Mem f n (fun i => p i = true)
  hp : Hp.Heap sz f n
  chain : 0 < n → ∀ a b, adj p K a b → lk S l K a b
  own : ∀ i, p i = true → S.ec i 2 = pt S.I (L l)

structure WAt (S : St) (sz : Nat → Int) : Prop where
  eq : S.nE = S.nW
  sz : SzAt S sz
  ch : ∀ i, i < S.nW → S.wc i 2 = .chan (some (S.Ch i))
  came : ∀ i, i < S.nW → S.wc i 3 = pt (S.E i) 0
  val : ∀ i, i < S.nW → S.ec i 3 = .iface 30 (pt (S.W i) 0)

/-- What a lane sees is the same. -/
structure Sees (l : Bool) (p : Nat → Bool) (S S' : St) : Prop where
  I : S'.I = S.I
  nW : S.nW ≤ S'.nW
  nE : S.nE ≤ S'.nE
  E : ∀ i, p i = true → S'.E i = S.E i
  W : ∀ i, p i = true → S'.W i = S.W i
  ic : ∀ o, L l ≤ o → o < L l + 7 → S'.ic o = S.ic o
  ec : ∀ i o, p i = true → o < 3 → S'.ec i o = S.ec i o
  hc : S'.hc l = S.hc l
  G : S'.G l = S.G l
  cap : S'.cap l = S.cap l
  wc : ∀ i, p i = true → S'.wc i 4 = S.wc i 4

variable {w0 w : World} {S S' : St} {K : Nat} {sz : Nat → Int} {l : Bool} {p : Nat → Bool} {fg : Bool} {f : Nat → Nat} {n : Nat}

theorem nd_sees (h : Sees l p S S') {a : Nat} (ha : a = 0 ∨ a = K + 1 ∨ p (a - 1) = true) : nd S' l K a = nd S l K a := by
  unfold nd blk
  by_cases e : a = 0 ∨ a = K + 1
  · rw [if_pos e, if_pos e, h.I]
  · rw [if_neg e, if_neg e, h.E _ (by rcases ha with h | h | h; exact absurd (.inl h) e; exact absurd (.inr h) e; exact h)]

theorem LaneAt.sees (H : LaneAt S K sz l p fg f n) (h : Sees l p S S') : LaneAt S' K sz l p fg f n := by
  refine ⟨fun i hi => ?_, H.num, by rw [h.ic _ (by omega) (by omega)]; exact H.len, by rw [h.ic _ (by omega) (by omega)]; exact H.flag, fun h0 => ?_, fun hn => ?_, H.mem, H.hp, fun hn a b hab => ?_, fun i hi => ?_⟩
  · have := H.plt i hi; have := h.nE; have := h.nW; omega
  · obtain ⟨v, c, e⟩ := H.hdr0 h0; exact ⟨v, c, by rw [h.ic _ (by omega) (by omega)]; exact e⟩
  · have G := H.heap hn
    refine ⟨by rw [h.ic _ (by omega) (by omega), h.G, h.cap]; exact G.hdr, by rw [h.cap]; exact G.cap, fun j hj => ?_, fun j hj => ?_, fun j hj => ?_, G.inj⟩
    · rw [h.hc, h.W _ (H.mem.mem j hj)]; exact G.row j hj
    · have := G.lt j hj; have := h.nW; omega
    · rw [h.wc _ (H.mem.mem j hj)]; exact G.at_ j hj
  · obtain ⟨c1, c2⟩ := H.chain hn a b hab
    obtain ⟨d1, d2, d3, d4, d5⟩ := hab
    have ha : a = 0 ∨ a = K + 1 ∨ p (a - 1) = true := d3.imp_right .inr
    have hb : b = 0 ∨ b = K + 1 ∨ p (b - 1) = true := .inr d4
    refine ⟨?_, ?_⟩
    · rw [nd_sees h hb, ← c1]
      unfold nx
      by_cases e : a = 0
      · rw [if_pos e, if_pos e, h.ic _ (by omega) (by omega)]
      · rw [if_neg e, if_neg e, h.ec _ 0 (d3.resolve_left e) (by omega)]
    · rw [nd_sees h ha, ← c2]
      unfold pv
      by_cases e : b = K + 1
      · rw [if_pos e, if_pos e, h.ic _ (by omega) (by omega)]
      · rw [if_neg e, if_neg e, h.ec _ 1 (d4.resolve_left e) (by omega)]
  · rw [h.ec i 2 hi (by omega), h.I]; exact H.own i hi

theorem L_ge (l : Bool) : 7 ≤ L l := by cases l <;> decide

theorem lane_pos (H : LaneAt S K sz l p fg f n) {i : Nat} (hi : p i = true) : 0 < n := by rw [H.num]; exact cnt_pos (H.plt i hi).1 hi

/-- The root's next is the oldest. -/
theorem first_is (H : LaneAt S K sz l p fg f n) {i : Nat} (hi : p i = true) (ho : ∀ j, p j = true → i ≤ j) : S.ic (L l) = pt (S.E i) 0 := by
  have hk := H.plt i hi
  have := (H.chain (lane_pos H hi) 0 (i + 1) ⟨by omega, by omega, .inl rfl, .inr (by simpa using hi), fun c h1 h2 => by
    cases e : p (c - 1) with
    | false => rfl
    | true => have := ho _ e; omega⟩).1
  unfold nx nd blk off at this
  rw [if_pos rfl, if_neg (by omega), if_neg (by omega)] at this
  simpa using this

theorem oldest_rep (h : Rep w0 w S) (hW : WAt S sz) (H : LaneAt S K sz l p fg f n) {i : Nat} (hi : p i = true) (ho : ∀ j, p j = true → i ≤ j) :
    Calls Try.prog 27 #[pt S.I (L l)] w fun e w' => e = .returned (pt (S.W i) 0) ∧ w' = w := by
  have hL := L_le l
  obtain ⟨k1, k2, k3⟩ := H.plt i hi
  have hn := lane_pos H hi
  exact oldest_any S.I (L l) (S.E i) (S.W i) n w (by omega) (by rw [h.iat _ (by omega), H.len]) (by rw [h.iat _ (by omega), first_is H hi ho]) (by rw [h.eat i k2 3 (by omega), hW.val i k3])

theorem next_rep (h : Rep w0 w S) (hW : WAt S sz) (H : LaneAt S K sz l p fg f n) {i : Nat} (hi : p i = true) (ho : ∀ j, p j = true → if fg then i ≤ j else ¬ Hp.lt sz j i) :
    Calls Try.prog 26 #[pt S.I (L l)] w fun e w' => e = .returned (pt (S.W i) 0) ∧ w' = w := by
  have hL := L_le l
  have hn := lane_pos H hi
  have G := H.heap hn
  have c5 := hdr_at h G
  have c6 : w.cell? ⟨S.I, L l + 6, none⟩ = some (.bool fg) := by rw [h.iat _ (by omega), H.flag]
  cases fg with
  | true => exact next_old S.I (L l) (S.cap l) n (S.W i) _ w hn c5 c6 (oldest_rep h hW H hi (fun j hj => by simpa using ho j hj))
  | false =>
    have h0 : f 0 = i := by
      have h1 : ¬ Hp.lt sz (f 0) i := by simpa using ho _ (H.mem.mem 0 hn)
      obtain ⟨j, hj, e⟩ := H.mem.all i hi
      have h2 := Hp.heap_min H.hp j hj
      rw [e] at h2
      exact Hp.lt_or h1 h2
    have hcap := G.cap
    exact next_head S.I (L l) (S.cap l) n (S.W i) (S.G l) w hn c5 c6 (by rw [h.hat l 0 (by omega), G.row 0 hn, h0])

theorem next_rep0 (h : Rep w0 w S) (H : LaneAt S K sz l p fg f n) (hp : ∀ j, p j = false) :
    Calls Try.prog 26 #[pt S.I (L l)] w fun e w' => e = .returned (.pointer none) ∧ w' = w := by
  have hL := L_le l
  have hn : n = 0 := by rw [H.num]; exact cnt_zero (fun i _ => hp i)
  obtain ⟨v, c, e⟩ := H.hdr0 hn
  exact next_nil S.I (L l) c v w (by rw [h.iat _ (by omega), e])
end Go.Proofs.Qxb6616981a
