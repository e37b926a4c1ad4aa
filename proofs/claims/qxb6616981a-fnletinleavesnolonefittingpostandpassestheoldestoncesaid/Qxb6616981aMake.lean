/-
  ZZnewIntake: what one round does to the typed cells.
-/
import Derived.Test.Qxb6616981aInv
import Derived.Test.Qxb6616981aLinkp
import Derived.Test.Qxb6616981aSl
import Derived.Conc.SmallLaws
namespace Go.Proofs.Qxb6616981a
open Go.RowKit
set_option maxHeartbeats 4000000

variable {w0 w : World} {S S' : St} {K : Nat} {sz : Nat → Int} {l : Bool} {p Q : Nat → Bool} {fg : Bool} {f : Nat → Nat} {n : Nat} {pr : Prm} {st : A}

theorem pushback_rep {x : Nat} (h : Rep w0 w S) (hx : x = S.nE) (hxK : x < K) (hp : ∀ i, p i = true → i < x) (hlen : S.ic (L l + 4) = .int .i64 n) (hnb : n < 1000000) (hfresh : n = 0 → S.ic (L l) = .pointer none) (hp0 : n = 0 → ∀ i, p i = false)
    (hchain : 0 < n → ∀ a b, adj p K a b → lk S l K a b) (hown : ∀ i, p i = true → S.ec i 2 = pt S.I (L l)) (hQ : ∀ i, Q i = (p i || decide (i = x))) (t : TypeId) (y : Value) :
    Calls Try.prog 18 #[pt S.I (L l), .iface t y] w fun e w' => e = .returned (pt w.heap.size 0) ∧ ∃ S', Rep w0 w' S' ∧ LPush S S' K l p Q x w.heap.size (.iface t y) n := by
  have hL := L_le l
  have hL' := L_ge l
  by_cases hn : n = 0
  · subst hn
    refine (pushBack_new S.I (L l) (S.ic (L l + 1)) (S.ic (L l + 4)) t y w (by rw [h.iat _ (by omega), hfresh rfl]) (h.iat _ (by omega)) (h.iat _ (by omega)) (h.ifr _) (h.ifr _) (h.ifr _)).mono ?_
    rintro e w' ⟨rfl, rfl⟩
    refine ⟨rfl, ?_⟩
    have R0 := ((h.setI (o := L l) (by omega) (pt S.I (L l))).setI (o := L l + 1) (by omega) (pt S.I (L l))).setI (o := L l + 4) (by omega) (.int .i64 0)
    have hsz : (initW w S.I (L l)).heap.size = w.heap.size := by unfold initW; simp
    have hA : adj p K 0 (K + 1) := ⟨by omega, by omega, .inl rfl, .inl rfl, fun c _ _ => hp0 rfl _⟩
    obtain ⟨S', r1, r2⟩ := ins_rep (K := K) (l := l) (p := p) (Q := Q) (x := x) (a0 := 0) R0 hx hxK hp (fun a b hab => by
      obtain ⟨d1, d2, d3, d4, d5⟩ := hab
      have ea : a = 0 := d3.resolve_right (by rw [hp0 rfl]; simp)
      have eb : b = K + 1 := d4.resolve_right (by rw [hp0 rfl]; simp)
      subst ea eb
      constructor
      · simp [nx, nd, blk, off, u1]
      · simp [pv, nd, blk, off, u1]) (fun i hi => by rw [hp0 rfl] at hi; cases hi) hQ hA (.iface t y) 0
    have e1 : (((w.setCell ⟨S.I, L l, none⟩ (pt S.I (L l))).setCell ⟨S.I, L l + 1, none⟩ (pt S.I (L l))).setCell ⟨S.I, L l + 4, none⟩ (.int .i64 0)) = initW w S.I (L l) := rfl
    refine ⟨S', ?_, ?_⟩
    · have hb : ∀ T : St, blk T K 0 = T.I := fun T => by simp [blk]
      have ho : off l K 0 = L l := by simp [off]
      rw [hb, ho] at r1
      have r1' : Rep w0 (insW ((initW w S.I (L l)).alloc (elO (.iface t y))) S.I (L l) (initW w S.I (L l)).heap.size S.I (L l) S.I (L l) 0) S' := r1
      rw [hsz] at r1'
      exact r1'
    · have r2' : LPush _ S' K l p Q x (initW w S.I (L l)).heap.size (.iface t y) 0 := r2
      rw [hsz] at r2'
      refine ⟨by rw [r2'.same], fun o a b c => ?_, r2'.ec, r2'.val, r2'.len, r2'.chain, r2'.own⟩
      rw [r2'.ic o a b c]
      show u1 (u1 (u1 S.ic (L l) _) (L l + 1) _) (L l + 4) _ o = S.ic o
      simp [u1, a, b, c]
  · have hn' : 0 < n := by omega
    have hch := hchain hn'
    obtain ⟨a0, A⟩ := adj_pred p K (K + 1) (by omega) (by omega) (.inl rfl)
    obtain ⟨b0, B⟩ := adj_succ p K 0 (by omega) (.inl rfl)
    have LA := hch _ _ A
    have LB := hch _ _ B
    have a1 : a0 ≤ K := by have := A.1; omega
    have a2 : a0 = 0 ∨ a0 - 1 < S.nE := A.2.2.1.imp_right (fun h => by have := hp _ h; omega)
    have oa := off_cases l K a0
    have ndK : nd S l K (K + 1) = pt S.I (L l) := by simp [nd, blk, off]
    refine (pushBack_any S.I (L l) (blk S K a0) (off l K a0) (blk S K b0) (off l K b0) n t y w ?_ ?_ ?_ (by rw [h.iat _ (by omega), hlen]) (by omega) (by omega) (by omega) (by omega) (h.ifr _) (h.nxat l a1 a2).2 (h.ifr _)).mono ?_
    · rw [h.iat _ (by omega)]
      have := LB.1; unfold nx at this; rw [if_pos rfl] at this; rw [this]; rfl
    · rw [(h.nxat l a1 a2).1, LA.1, ndK]
    · rw [h.iat _ (by omega)]
      have := LA.2; unfold pv at this; rw [if_pos rfl] at this; rw [this]; rfl
    rintro e w' ⟨rfl, rfl⟩
    exact ⟨rfl, ins_rep h hx hxK hp hch hown hQ A (.iface t y) n⟩

/-- The posts of kind l among the first k. -/
def pk (pr : Prm) (l : Bool) (k : Nat) (i : Nat) : Bool := decide (i < k) && (pr.lg i == l)

structure BInv (w0 w : World) (S : St) (pr : Prm) (st : A) (k ib vb : Nat) : Prop where
  rep : Rep w0 w S
  wat : WAt S pr.sz
  I : S.I = ib
  V : S.V = vb
  nV : S.nV = pr.K
  nW : S.nW = k
  c0 : S.ic 0 = .int .i64 pr.room
  c1 : S.ic 1 = .int .i64 pr.lroom
  c2 : S.ic 2 = .int .i64 pr.small
  c5 : S.ic 5 = .int .i64 st.held
  c6 : S.ic 6 = .int .i64 st.lheld
  c21 : S.ic 21 = .int .u64 k
  shut : ∀ i, i < k → S.shut i = false
  vc : ∀ i, i < k → S.vc i = pt (S.W i) 0
  lanes : ∀ l, ∃ f n, LaneAt S pr.K pr.sz l (pk pr l k) (st.fl l) f n ∧ (n = 0 → S.ic (L l) = .pointer none ∧ S.ic (L l + 5) = .slice none 0 0)

def wO (s : Int) (k c : Nat) : Obj := .cells #[.int .i64 s, .int .u64 k, .chan (some c), .pointer none, .int .i64 0] 64
def cO : Obj := .chan 0 #[] false 0 0 false

/-- The world behind the two allocations of a round. -/
def w1of (w : World) (s : Int) (k : Nat) : World := ((w.alloc cO).alloc (wO s k w.heap.size)).drew

theorem w1of_bel (w : World) (s : Int) (k : Nat) : Below w.heap.size w (w1of w s k) := by
  have b1 : Below w.heap.size w (w.alloc cO) := (Below.refl _ _).alloc (Nat.le_refl _) _
  have b2 : Below w.heap.size w ((w.alloc cO).alloc (wO s k w.heap.size)) := b1.alloc (by simp) _
  exact b2.trans ⟨rfl, rfl, rfl, Nat.le_refl _, fun _ _ => rfl⟩
theorem w1of_size (w : World) (s : Int) (k : Nat) : (w1of w s k).heap.size = w.heap.size + 2 := by
  show ((w.alloc cO).alloc (wO s k w.heap.size)).heap.size = _
  simp
theorem w1of_cell (w : World) (s : Int) (k : Nat) {o : Nat} (ho : o < 5) : (w1of w s k).cell? ⟨w.heap.size + 1, o, none⟩ = some (arrAt #[.int .i64 s, .int .u64 k, .chan (some w.heap.size), .pointer none, .int .i64 0] o) := by
  unfold w1of
  rw [World.cell?_drew, show w.heap.size + 1 = (w.alloc cO).heap.size from by simp]
  exact arr_cell (w.alloc cO) #[.int .i64 s, .int .u64 k, .chan (some w.heap.size), .pointer none, .int .i64 0] 64 (j := o) ho
theorem w1of_frozen (w : World) (s : Int) (k o : Nat) : (w1of w s k).frozen? ⟨w.heap.size + 1, o, none⟩ = false := by
  show ((w.alloc cO).alloc (wO s k w.heap.size)).frozen? _ = false
  rw [show w.heap.size + 1 = (w.alloc cO).heap.size from by simp]
  exact arr_frozen (w.alloc cO) #[.int .i64 s, .int .u64 k, .chan (some w.heap.size), .pointer none, .int .i64 0] 64 (j := o)
theorem w1of_chan (w : World) (s : Int) (k : Nat) : (w1of w s k).heap[w.heap.size]? = some (.chan 0 #[] false 0 0 false) := by
  have b : Below (w.alloc cO).heap.size (w.alloc cO) ((w.alloc cO).alloc (wO s k w.heap.size)) := (Below.refl _ _).alloc (Nat.le_refl _) _
  have := b.block w.heap.size (by simp)
  exact this.trans (by show (w.heap.push cO)[w.heap.size]? = _; simp [cO])

theorem Rep.setW' (h : Rep w0 w S) {k o wb : Nat} (hk : k < S.nW) (ho : o < 5) (he : S.W k = wb) (v : Value) : Rep w0 (w.setCell ⟨wb, o, none⟩ v) { S with wc := u2 S.wc k o v } := he ▸ h.setW hk ho v
theorem Rep.setV' (h : Rep w0 w S) {o vb : Nat} (ho : o < S.nV) (he : S.V = vb) (v : Value) : Rep w0 (w.setCell ⟨vb, o, none⟩ v) { S with vc := u1 S.vc o v } := he ▸ h.setV ho v

theorem pk_succ (pr : Prm) (l : Bool) (k i : Nat) : pk pr l (k + 1) i = (pk pr l k i || (decide (i = k) && (pr.lg k == l))) := by
  unfold pk
  by_cases e : i = k
  · subst e; simp
  · have : decide (i < k + 1) = decide (i < k) := by congr 1; rw [eq_iff_iff]; omega
    simp [e, this]

theorem LaneAt.congr (H : LaneAt S K sz l p fg f n) (h : ∀ i, Q i = p i) : LaneAt S K sz l Q fg f n := by
  have : Q = p := funext h
  rw [this]; exact H

theorem hpush_rep' {P Q : Nat → Prop} {x ib wb : Nat} (hI : S.I = ib) (hWx : S.W x = wb) (h : Rep w0 w S) (hg : Grows S l f n) (hs : SzAt S sz) (hP : Hp.Mem f n P) (hQ : ∀ i, Q i ↔ P i ∨ i = x) (hPx : ¬ P x) (hn : n ≤ 1000000) (hx : x < S.nW) (hh : Hp.Heap sz f n) :
    Calls Try.prog 19 #[.iface 69 (pt ib (L l + 5)), .iface 30 (pt wb 0)] w fun e w' => e = .returned (.tuple #[]) ∧ ∃ S' f', Hid (Rep w0 w' S') ∧ Hid (HeapAt S' l f' (n + 1)) ∧ Hid (HFrame Q l S S') ∧ Hid (Hp.Mem f' (n + 1) Q) ∧ Hid (Hp.Heap sz f' (n + 1)) := by
  subst hI hWx
  exact hpush_rep h hg hs hP hQ hPx hn hx hh

theorem make_facts (hd : Dom pr) {k ib vb : Nat} (h : BInv w0 w S pr st k ib vb) (hk : k < pr.K) (w1 w2 : World) (hw1 : w1 = w1of w (pr.sz k) k) (hw2 : w2 = w1.setCell ⟨ib, 21, none⟩ (.int .u64 ((k : Int) + 1))) :
    ∃ M3 M5 : World → Prop,
      Hid (Calls Try.prog 17 #[pt ib 0, .int .i64 (pr.sz k)] w2 fun e w' => e = .returned (pt ib (L (pr.lg k))) ∧ w' = w2)
      ∧ Hid (Calls Try.prog 18 #[pt ib (L (pr.lg k)), .iface 30 (pt (w.heap.size + 1) 0)] w2 fun e w' => e = .returned (pt (w.heap.size + 2) 0) ∧ Hid (M3 w'))
      ∧ Hid (∀ w3, Hid (M3 w3) → w3.cell? ⟨w.heap.size + 1, 3, none⟩ = some (.pointer none) ∧ w3.frozen? ⟨w.heap.size + 1, 3, none⟩ = false
          ∧ Calls Try.prog 19 #[.iface 69 (pt ib (L (pr.lg k) + 5)), .iface 30 (pt (w.heap.size + 1) 0)] (w3.setCell ⟨w.heap.size + 1, 3, none⟩ (pt (w.heap.size + 2) 0)) fun e w' => e = .returned (.tuple #[]) ∧ Hid (M5 w'))
      ∧ Hid (∀ w5, Hid (M5 w5) → (∃ u, w5.cell? ⟨vb, k, none⟩ = some u) ∧ w5.frozen? ⟨vb, k, none⟩ = false ∧ ∃ S6, BInv w0 (w5.setCell ⟨vb, k, none⟩ (pt (w.heap.size + 1) 0)) S6 pr st (k + 1) ib vb) := by
  obtain ⟨hrep, hwat, rfl, rfl, hnV, hnW, c0, c1, c2, c5, c6, c21, hshut, hvc, hlanes⟩ := h
  have hnE : S.nE = k := by rw [hwat.eq, hnW]
  -- S1: the new waiter
  have R1 := hrep.newW (w1of_bel w (pr.sz k) k) (w.heap.size + 1) w.heap.size (arrAt #[.int .i64 (pr.sz k), .int .u64 k, .chan (some w.heap.size), .pointer none, .int .i64 0]) (by omega) (Nat.le_refl _) (fun o ho => w1of_cell w _ k ho) (fun o => w1of_frozen w _ k o) (w1of_chan w _ k)
  rw [← hw1] at R1
  have R2 := R1.setI (o := 21) (by omega) (.int .u64 ((k : Int) + 1))
  have hsz2 : w2.heap.size = w.heap.size + 2 := by rw [hw2, World.size_setCell, hw1, w1of_size]
  have R2' : Rep w0 w2 { S with W := un S.W S.nW (w.heap.size + 1), Ch := un S.Ch S.nW w.heap.size, nW := S.nW + 1, wc := un S.wc S.nW (arrAt #[.int .i64 (pr.sz k), .int .u64 k, .chan (some w.heap.size), .pointer none, .int .i64 0]), shut := un S.shut S.nW false, ic := u1 S.ic 21 (.int .u64 ((k : Int) + 1)) } := by
    rw [hw2]; exact R2
  obtain ⟨S2, hS2⟩ : ∃ S2, S2 = { S with W := un S.W S.nW (w.heap.size + 1), Ch := un S.Ch S.nW w.heap.size, nW := S.nW + 1, wc := un S.wc S.nW (arrAt #[.int .i64 (pr.sz k), .int .u64 k, .chan (some w.heap.size), .pointer none, .int .i64 0]), shut := un S.shut S.nW false, ic := u1 S.ic 21 (.int .u64 ((k : Int) + 1)) } := ⟨_, rfl⟩
  rw [← hS2] at R2'
  clear R1 R2 hw1 hw2
  have sI : S2.I = S.I := by rw [hS2]
  have sV : S2.V = S.V := by rw [hS2]
  have snV : S2.nV = pr.K := by rw [hS2]; exact hnV
  have svc : S2.vc = S.vc := by rw [hS2]
  have snW : S2.nW = k + 1 := by rw [hS2]; show S.nW + 1 = _; omega
  have snE : S2.nE = k := by rw [hS2]; exact hnE
  have sE : S2.E = S.E := by rw [hS2]
  have sec : S2.ec = S.ec := by rw [hS2]
  have sWk : S2.W k = w.heap.size + 1 := by rw [hS2]; show un S.W S.nW _ k = _; simp [un, hnW]
  have sWi : ∀ i, i < k → S2.W i = S.W i := fun i hi => by rw [hS2]; show un S.W S.nW _ i = _; have : ¬ i = S.nW := by omega
                                                           simp [un, this]
  have sChk : S2.Ch k = w.heap.size := by rw [hS2]; show un S.Ch S.nW _ k = _; simp [un, hnW]
  have sChi : ∀ i, i < k → S2.Ch i = S.Ch i := fun i hi => by rw [hS2]; show un S.Ch S.nW _ i = _; have : ¬ i = S.nW := by omega
                                                              simp [un, this]
  have swk : S2.wc k = arrAt #[.int .i64 (pr.sz k), .int .u64 k, .chan (some w.heap.size), .pointer none, .int .i64 0] := by rw [hS2]; show un S.wc S.nW _ k = _; simp [un, hnW]
  have swi : ∀ i, i < k → S2.wc i = S.wc i := fun i hi => by rw [hS2]; show un S.wc S.nW _ i = _; have : ¬ i = S.nW := by omega
                                                             simp [un, this]
  have ssh : ∀ i, i < k + 1 → S2.shut i = false := fun i hi => by
    rw [hS2]; show un S.shut S.nW false i = false
    by_cases e : i = S.nW
    · simp [un, e]
    · simp [un, e]; exact hshut i (by omega)
  have sic : ∀ o, o ≠ 21 → S2.ic o = S.ic o := fun o ho => by rw [hS2]; show u1 S.ic 21 _ o = _; simp [u1, ho]
  have s21 : S2.ic 21 = .int .u64 ((k + 1 : Nat) : Int) := by rw [hS2]; show u1 S.ic 21 _ 21 = _; simp [u1]
  have Z2 : SzAt S2 pr.sz := fun i hi => by
    rw [snW] at hi
    by_cases e : i = k
    · subst e; rw [swk]; exact ⟨rfl, rfl⟩
    · rw [swi i (by omega)]; exact hwat.sz i (by omega)
  have lanes2 : ∀ l, ∃ f n, LaneAt S2 pr.K pr.sz l (pk pr l k) (st.fl l) f n ∧ (n = 0 → S2.ic (L l) = .pointer none ∧ S2.ic (L l + 5) = .slice none 0 0) := by
    intro l
    obtain ⟨f, n, H, H0⟩ := hlanes l
    have hl := L_le l
    have hlt : ∀ i, pk pr l k i = true → i < k := fun i hi => by unfold pk at hi; simp at hi; exact hi.1
    refine ⟨f, n, H.sees ⟨sI, by omega, by omega, fun i hi => by rw [sE], fun i hi => sWi i (hlt i hi), fun o h1 h2 => sic o (by omega), fun i o hi _ => by rw [sec], by rw [hS2], by rw [hS2], by rw [hS2], fun i hi => by rw [swi i (hlt i hi)]⟩, fun h0 => ?_⟩
    rw [sic _ (by omega), sic _ (by omega)]
    exact H0 h0
  -- the lane of k
  obtain ⟨f, n, H, H0⟩ := lanes2 (pr.lg k)
  have hnK : n ≤ pr.K := by rw [H.num]; exact cnt_le
  have hdK := hd.K
  have hQ : ∀ i, pk pr (pr.lg k) (k + 1) i = (pk pr (pr.lg k) k i || decide (i = k)) := fun i => by rw [pk_succ]; simp
  have hpk : ∀ l i, pk pr l k i = true → i < k := fun l i hi => by unfold pk at hi; simp at hi; exact hi.1
  have hp0 : n = 0 → ∀ i, pk pr (pr.lg k) k i = false := fun h0 i => by
    cases e : pk pr (pr.lg k) k i with
    | false => rfl
    | true => have := lane_pos H e; omega
  have hL := L_le (pr.lg k)
  have hL' := L_ge (pr.lg k)
  refine ⟨fun w3 => ∃ S3, Rep w0 w3 S3 ∧ LPush S2 S3 pr.K (pr.lg k) (pk pr (pr.lg k) k) (pk pr (pr.lg k) (k + 1)) k (w.heap.size + 2) (.iface 30 (pt (w.heap.size + 1) 0)) n,
    fun w5 => ∃ S3 S5 f5, LPush S2 S3 pr.K (pr.lg k) (pk pr (pr.lg k) k) (pk pr (pr.lg k) (k + 1)) k (w.heap.size + 2) (.iface 30 (pt (w.heap.size + 1) 0)) n
      ∧ Rep w0 w5 S5 ∧ HeapAt S5 (pr.lg k) f5 (n + 1) ∧ HFrame (fun i => pk pr (pr.lg k) (k + 1) i = true) (pr.lg k) { S3 with wc := u2 S3.wc k 3 (pt (w.heap.size + 2) 0) } S5 ∧ Hp.Mem f5 (n + 1) (fun i => pk pr (pr.lg k) (k + 1) i = true) ∧ Hp.Heap pr.sz f5 (n + 1), ?_, ?_, ?_, ?_⟩
  · rw [← sI]
    refine (laneOf_any S2.I (pr.sz k) pr.small w2 ?_ (pr.lg k) rfl)
    rw [R2'.iat 2 (by omega), sic 2 (by omega), c2]
  · rw [← sI, ← hsz2]
    refine (pushback_rep (K := pr.K) (l := pr.lg k) (p := pk pr (pr.lg k) k) (Q := pk pr (pr.lg k) (k + 1)) (n := n) (x := k) R2' snE.symm hk (hpk _) H.len (by omega) (fun h0 => (H0 h0).1) hp0 H.chain H.own hQ 30 (pt (w.heap.size + 1) 0)).mono ?_
    rintro e w' ⟨rfl, S3, r1, r2⟩
    exact ⟨rfl, S3, r1, r2⟩
  · rintro w3 ⟨S3, r1, r2⟩
    have tW : S3.W = S2.W := by rw [r2.same]
    have twc : S3.wc = S2.wc := by rw [r2.same]
    have tnW : S3.nW = k + 1 := by rw [r2.same]; exact snW
    have tI : S3.I = S2.I := by rw [r2.same]
    have hkW : k < S3.nW := by omega
    have e3 := r1.wat k hkW 3 (by omega)
    rw [tW, sWk, twc, swk] at e3
    have f3 := r1.wfr k hkW 3
    rw [tW, sWk] at f3
    refine ⟨e3, f3, ?_⟩
    have R4 := r1.setW' (k := k) (o := 3) (wb := w.heap.size + 1) hkW (by omega) (by rw [tW, sWk]) (pt (w.heap.size + 2) 0)
    have hwc4 : ∀ i o, o ≠ 3 → u2 S3.wc k 3 (pt (w.heap.size + 2) 0) i o = S2.wc i o := fun i o ho => by rw [twc]; simp [u2, ho]
    have Z4 : SzAt { S3 with wc := u2 S3.wc k 3 (pt (w.heap.size + 2) 0) } pr.sz := fun i hi => by
      have hi : i < S3.nW := hi
      show u2 S3.wc k 3 _ i 0 = _ ∧ u2 S3.wc k 3 _ i 1 = _
      rw [hwc4 i 0 (by omega), hwc4 i 1 (by omega)]
      exact Z2 i (by omega)
    have hc5 : S3.ic (L (pr.lg k) + 5) = S2.ic (L (pr.lg k) + 5) := r2.ic _ (by omega) (by omega) (by omega)
    have G4 : Grows { S3 with wc := u2 S3.wc k 3 (pt (w.heap.size + 2) 0) } (pr.lg k) f n := by
      by_cases hn : n = 0
      · exact .inl ⟨hn, hc5.trans (H0 hn).2⟩
      · have HG := H.heap (by omega)
        refine .inr ⟨by omega, ?_, ?_, ?_, ?_, ?_, HG.inj⟩
        · show S3.ic _ = .slice (some ⟨S3.G _, 0, none⟩) n (S3.cap _)
          rw [hc5, r2.same]; exact HG.hdr
        · show n ≤ S3.cap _
          rw [r2.same]; exact HG.cap
        · intro j hj
          show S3.hc _ j = pt (S3.W (f j)) 0
          rw [r2.same]; exact HG.row j hj
        · intro j hj
          show f j < S3.nW
          rw [r2.same]; exact HG.lt j hj
        · intro j hj
          show u2 S3.wc k 3 _ (f j) 4 = _
          rw [hwc4 _ 4 (by omega)]; exact HG.at_ j hj
    have hnk : ¬ pk pr (pr.lg k) k k = true := fun h => by have := hpk _ _ h; omega
    have tI' : ({ S3 with wc := u2 S3.wc k 3 (pt (w.heap.size + 2) 0) } : St).I = S.I := tI.trans sI
    have tWk : ({ S3 with wc := u2 S3.wc k 3 (pt (w.heap.size + 2) 0) } : St).W k = w.heap.size + 1 := by show S3.W k = _; rw [tW, sWk]
    have C := hpush_rep' (Q := fun i => pk pr (pr.lg k) (k + 1) i = true) (x := k) tI' tWk R4 G4 Z4 H.mem (fun i => by show pk pr _ (k + 1) i = true ↔ _; rw [hQ]; simp) hnk (by omega) hkW H.hp
    refine C.mono ?_
    rintro e w' ⟨rfl, S5, f5, q1, q2, q3, q4, q5⟩
    exact ⟨rfl, S3, S5, f5, r2, q1.out, q2.out, q3.out, q4.out, q5.out⟩
  · rintro w5 ⟨S3, S5, f5, r2, q1, q2, q3, q4, q5⟩
    have vV : S5.V = S.V := by rw [q3.same]; show S3.V = _; rw [r2.same]; exact sV
    have vnV : S5.nV = pr.K := by rw [q3.same]; show S3.nV = _; rw [r2.same]; exact snV
    have vvc : S5.vc = S.vc := by rw [q3.same]; show S3.vc = _; rw [r2.same]; exact svc
    have vW : S5.W = S2.W := by rw [q3.same]; show S3.W = _; rw [r2.same]
    have vI : S5.I = S.I := by rw [q3.same]; show S3.I = _; rw [r2.same]; exact sI
    have vnW : S5.nW = k + 1 := by rw [q3.same]; show S3.nW = _; rw [r2.same]; exact snW
    have vnE : S5.nE = k + 1 := by rw [q3.same]; show S3.nE = _; rw [r2.same]; show S2.nE + 1 = _; omega
    have vE : S5.E = un S.E k (w.heap.size + 2) := by rw [q3.same]; show S3.E = _; rw [r2.same]; show un S2.E S2.nE _ = _; rw [snE, sE]
    have vCh : S5.Ch = S2.Ch := by rw [q3.same]; show S3.Ch = _; rw [r2.same]
    have vsh : S5.shut = S2.shut := by rw [q3.same]; show S3.shut = _; rw [r2.same]
    have vec : S5.ec = S3.ec := by rw [q3.same]
    have twc : S3.wc = S2.wc := by rw [r2.same]
    have vwc : ∀ i o, o ≠ 4 → S5.wc i o = u2 S2.wc k 3 (pt (w.heap.size + 2) 0) i o := fun i o ho => by rw [q3.wc i o (.inl ho)]; show u2 S3.wc k 3 _ i o = _; rw [twc]
    have vic : ∀ o, o ≠ L (pr.lg k) → o ≠ L (pr.lg k) + 1 → o ≠ L (pr.lg k) + 4 → o ≠ L (pr.lg k) + 5 → S5.ic o = S2.ic o := fun o a b c d => (q3.ic o d).trans (r2.ic o a b c)
    have low : ∀ o, o < 7 → S5.ic o = S.ic o := fun o ho => (vic o (by omega) (by omega) (by omega) (by omega)).trans (sic o (by omega))
    have hkV : k < S5.nV := by omega
    refine ⟨⟨_, by rw [← vV]; exact q1.vat k hkV⟩, by rw [← vV]; exact q1.vfr (by omega) k, ?_⟩
    have R6 := q1.setV' (o := k) hkV vV (pt (w.heap.size + 1) 0)
    refine ⟨_, ⟨R6, ⟨by show S5.nE = S5.nW; omega, q3.sz (S := { S3 with wc := u2 S3.wc k 3 (pt (w.heap.size + 2) 0) }) (fun i hi => ?_), fun i hi => ?_, fun i hi => ?_, fun i hi => ?_⟩, vI, vV, vnV, vnW, (low 0 (by omega)).trans c0, (low 1 (by omega)).trans c1, (low 2 (by omega)).trans c2, (low 5 (by omega)).trans c5, (low 6 (by omega)).trans c6, ?_, fun i hi => ?_, fun i hi => ?_, fun l => ?_⟩⟩
    · have hi : i < S3.nW := hi
      have tnW : S3.nW = k + 1 := by rw [r2.same]; exact snW
      show u2 S3.wc k 3 _ i 0 = _ ∧ u2 S3.wc k 3 _ i 1 = _
      rw [twc]
      have := Z2 i (by omega)
      simp [u2]; exact this
    · have hi : i < S5.nW := hi
      show S5.wc i 2 = .chan (some (S5.Ch i))
      rw [vwc i 2 (by omega), vCh]
      have z : u2 S2.wc k 3 (pt (w.heap.size + 2) 0) i 2 = S2.wc i 2 := by simp [u2]
      rw [z]
      by_cases e : i = k
      · subst e; rw [swk, sChk]; rfl
      · rw [swi i (by omega), sChi i (by omega)]; exact hwat.ch i (by omega)
    · have hi : i < S5.nW := hi
      show S5.wc i 3 = pt (S5.E i) 0
      rw [vwc i 3 (by omega), vE]
      by_cases e : i = k
      · subst e; simp [u2, un]
      · have z : u2 S2.wc k 3 (pt (w.heap.size + 2) 0) i 3 = S2.wc i 3 := by simp [u2, e]
        rw [z, swi i (by omega)]
        have z2 : un S.E k (w.heap.size + 2) i = S.E i := by simp [un, e]
        rw [z2]; exact hwat.came i (by omega)
    · have hi : i < S5.nW := hi
      show S5.ec i 3 = .iface 30 (pt (S5.W i) 0)
      rw [vec, vW]
      by_cases e : i = k
      · subst e; rw [r2.val, sWk]
      · rw [r2.ec i 3 e (.inl rfl), sec, sWi i (by omega)]; exact hwat.val i (by omega)
    · show S5.ic 21 = _
      rw [vic 21 (by omega) (by omega) (by omega) (by omega), s21]
    · show S5.shut i = false
      rw [vsh]; exact ssh i hi
    · show u1 S5.vc k _ i = pt (S5.W i) 0
      rw [vvc, vW]
      by_cases e : i = k
      · subst e; rw [sWk]; simp [u1]
      · have z : u1 S.vc k (pt (w.heap.size + 1) 0) i = S.vc i := by simp [u1, e]
        rw [z, sWi i (by omega)]; exact hvc i (by omega)
    · by_cases e : l = pr.lg k
      · subst e
        refine ⟨f5, n + 1, ⟨fun i hi => ?_, ?_, ?_, ?_, fun h => by omega, fun _ => ⟨q2.hdr, q2.cap, q2.row, q2.lt, q2.at_, q2.inj⟩, q4, q5, fun _ a b hab => ?_, fun i hi => ?_⟩, fun h => by omega⟩
        · have : i < k + 1 := by unfold pk at hi; simp at hi; exact hi.1
          show i < pr.K ∧ i < S5.nE ∧ i < S5.nW
          omega
        · rw [cnt_one (P := pk pr (pr.lg k) k) (x := k) (by cases e2 : pk pr (pr.lg k) k k with | false => rfl | true => have := hpk _ _ e2; omega) (by rw [hQ]; simp) (fun i hi => by rw [hQ]; simp [hi]) pr.K hk, H.num]
        · show S5.ic _ = _
          rw [q3.ic _ (by omega)]; show S3.ic _ = _; rw [r2.len]; rfl
        · show S5.ic _ = _
          rw [vic _ (by omega) (by omega) (by omega) (by omega)]; exact H.flag
        · obtain ⟨g1, g2⟩ := r2.chain a b hab
          have tE : S5.E = S3.E := by rw [q3.same]
          have tI : S5.I = S3.I := by rw [q3.same]
          have ndd : ∀ c, nd { S5 with vc := u1 S5.vc k (pt (w.heap.size + 1) 0) } (pr.lg k) pr.K c = nd S3 (pr.lg k) pr.K c := fun c => by unfold nd blk; show pt (if _ then S5.I else S5.E _) _ = _; rw [tE, tI]
          refine ⟨?_, ?_⟩
          · rw [ndd, ← g1]; unfold nx; show (if a = 0 then S5.ic _ else S5.ec _ _) = _; rw [vec, q3.ic _ (by omega)]
          · rw [ndd, ← g2]; unfold pv; show (if b = _ then S5.ic _ else S5.ec _ _) = _; rw [vec, q3.ic _ (by omega)]
        · show S5.ec i 2 = pt S5.I _
          rw [vec, r2.own i hi]
          have tI : S5.I = S3.I := by rw [q3.same]
          rw [tI]
      · obtain ⟨f2, n2, H2, H20⟩ := lanes2 l
        have hdis : ∀ o, L l ≤ o → o < L l + 7 → o < L (pr.lg k) ∨ L (pr.lg k) + 7 ≤ o := by
          intro o h1 h2
          have a : L false = 7 := rfl
          have b : L true = 14 := rfl
          cases l <;> cases hlk : pr.lg k <;> rw [hlk] at e
          · exact absurd rfl e
          · omega
          · omega
          · exact absurd rfl e
        have hne : ∀ i, pk pr l k i = true → pk pr (pr.lg k) k i = false ∧ i ≠ k ∧ ¬ pk pr (pr.lg k) (k + 1) i = true := fun i hi => by
          have hik := hpk l i hi
          unfold pk at hi
          simp at hi
          have h2 : (pr.lg i == pr.lg k) = false := by rw [beq_eq_false_iff_ne, hi.2]; exact e
          refine ⟨by unfold pk; rw [h2]; simp, by omega, by unfold pk; rw [h2]; simp⟩
        have key : LaneAt { S5 with vc := u1 S5.vc k (pt (w.heap.size + 1) 0) } pr.K pr.sz l (pk pr l k) (st.fl l) f2 n2 := by
          refine H2.sees ⟨vI.trans sI.symm, by show S2.nW ≤ S5.nW; omega, by show S2.nE ≤ S5.nE; omega, fun i hi => ?_, fun i hi => by show S5.W i = _; rw [vW], fun o h1 h2 => ?_, fun i o hi ho => ?_, ?_, ?_, ?_, fun i hi => ?_⟩
          · show S5.E i = _
            rw [vE, sE]; have := (hne i hi).2.1; simp [un, this]
          · have := hdis o h1 h2
            exact vic o (by omega) (by omega) (by omega) (by omega)
          · show S5.ec i o = _
            rw [vec]; exact r2.ec i o (hne i hi).2.1 (.inr (hne i hi).1)
          · exact (q3.hc l e).trans (by show S3.hc l = _; rw [r2.same])
          · exact (q3.G l e).trans (by show S3.G l = _; rw [r2.same])
          · exact (q3.cap l e).trans (by show S3.cap l = _; rw [r2.same])
          · show S5.wc i 4 = _
            rw [q3.wc i 4 (.inr (hne i hi).2.2)]; show u2 S3.wc k 3 _ i 4 = _; rw [twc]; simp [u2]
        refine ⟨f2, n2, key.congr (fun i => ?_), fun h0 => ?_⟩
        · rw [pk_succ]
          have : (pr.lg k == l) = false := by rw [beq_eq_false_iff_ne]; exact fun h => e h.symm
          rw [this]; simp
        · have hl := L_le l
          have d1 := hdis (L l) (by omega) (by omega)
          have d2 := hdis (L l + 5) (by omega) (by omega)
          refine ⟨(vic _ (by omega) (by omega) (by omega) (by omega)).trans (H20 h0).1, (vic _ (by omega) (by omega) (by omega) (by omega)).trans (H20 h0).2⟩
end Go.Proofs.Qxb6616981a
