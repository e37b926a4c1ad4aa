/-
  ZZlane, walked: the lane's posts in the order they came.
-/
import Derived.Test.Qxb6616981aInv
import Derived.Test.Qxb6616981aSl
import Derived.OwnWalk
import Derived.Maps.AppendAt
import Derived.Laws.AppendOwn
namespace Go.Proofs.Qxb6616981a
open Go.RowKit
set_option maxRecDepth 100000
set_option maxHeartbeats 4000000

variable {w0 w : World} {S S' : St} {pr : Prm} {st : A} {op : Nat → Bool} {l : Bool}

theorem Inv.below {w2 : World} (h : Inv w0 w S pr st op) (hb : Below w.heap.size w w2) : Inv w0 w2 S pr st op := { h with rep := h.rep.below hb }

def nodeP (S : St) (K b : Nat) : Value := if b = K + 1 then .pointer none else pt (S.E (b - 1)) 0

theorem front_rep (h : Inv w0 w S pr st op) {b : Nat} (hb : adj (P pr st l) pr.K 0 b) : Calls Try.prog 21 #[pt S.I (L l)] w fun e w' => e = .returned (nodeP S pr.K b) ∧ w' = w := by
  have hL := L_le l
  obtain ⟨f, n, H⟩ := h.lanes l
  refine (front_any S.I (L l) n (S.ic (L l)) w (by rw [h.rep.iat _ (by omega), H.len]) (h.rep.iat _ (by omega))).mono ?_
  rintro e w' ⟨rfl, rfl⟩
  refine ⟨?_, rfl⟩
  congr 1
  by_cases hn : n = 0
  · have hz : b = pr.K + 1 := by
      rcases hb.2.2.2.1 with e | e
      · exact e
      · have := lane_pos H e; omega
    rw [if_pos (by omega), nodeP, if_pos hz]
  · rw [if_neg (by omega)]
    have := (H.chain (by omega) 0 b hb).1
    unfold nx at this
    rw [if_pos rfl] at this
    have hz : b ≠ pr.K + 1 := by
      intro e
      have h0 := H.mem.mem 0 (by omega)
      have hk := (H.plt _ h0).1
      have := hb.2.2.2.2 (f 0 + 1) (by omega) (by omega)
      simp at this
      rw [this] at h0; cases h0
    have hb0 : b ≠ 0 := by have := hb.1; omega
    rw [this, nodeP, if_neg hz]
    unfold nd blk off
    rw [if_neg (by omega), if_neg (by omega)]

theorem nextn_rep (h : Inv w0 w S pr st op) {i b : Nat} (hi : P pr st l i = true) (hb : adj (P pr st l) pr.K (i + 1) b) : Calls Try.prog 22 #[pt (S.E i) 0] w fun e w' => e = .returned (nodeP S pr.K b) ∧ w' = w := by
  obtain ⟨f, n, H⟩ := h.lanes l
  obtain ⟨k1, k2, k3⟩ := H.plt i hi
  have hL' := L_ge l
  have hc := (H.chain (lane_pos H hi) (i + 1) b hb).1
  unfold nx at hc
  rw [if_neg (by omega), Nat.add_sub_cancel] at hc
  have hb0 : b ≠ 0 := by have := hb.1; omega
  by_cases hz : b = pr.K + 1
  · have e1 : nd S l pr.K b = pt S.I (L l) := by unfold nd blk off; rw [if_pos (.inr hz), if_pos (.inr hz)]
    rw [e1] at hc
    refine (next_any (S.E i) S.I (L l) S.I (L l) w (by rw [h.rep.eat i k2 0 (by omega), hc]) (by rw [h.rep.eat i k2 2 (by omega), H.own i hi]) h.rep.ptrI h.rep.ptrI true (by simp)).mono ?_
    rintro e w' ⟨rfl, rfl⟩
    exact ⟨by rw [nodeP, if_pos hz]; rfl, rfl⟩
  · have hp := hb.2.2.2.1.resolve_left hz
    obtain ⟨m1, m2, m3⟩ := H.plt _ hp
    have e1 : nd S l pr.K b = pt (S.E (b - 1)) 0 := by unfold nd blk off; rw [if_neg (by omega), if_neg (by omega)]
    rw [e1] at hc
    refine (next_any (S.E i) S.I (L l) (S.E (b - 1)) 0 w (by rw [h.rep.eat i k2 0 (by omega), hc]) (by rw [h.rep.eat i k2 2 (by omega), H.own i hi]) (h.rep.ptrE m2) h.rep.ptrI false (by have := h.rep.sEI _ m2; simp [this])).mono ?_
    rintro e w' ⟨rfl, rfl⟩
    exact ⟨by rw [nodeP, if_neg hz]; rfl, rfl⟩

/-- The members below c, in order. -/
structure Enum (O : List Nat) (p : Nat → Bool) (c : Nat) : Prop where
  len : O.length = cnt p c
  mem : ∀ j, j < O.length → p (O.getD j 0) = true ∧ O.getD j 0 < c ∧ cnt p (O.getD j 0) = j

theorem cnt_gap {p : Nat → Bool} {b b' : Nat} (h : b < b') (hg : ∀ c, b < c → c < b' → p (c - 1) = false) : cnt p (b' - 1) = cnt p b := by
  obtain ⟨d, rfl⟩ : ∃ d, b' = b + d + 1 := ⟨b' - b - 1, by omega⟩
  have key : ∀ e, e ≤ d → cnt p (b + e) = cnt p b := by
    intro e
    induction e with
    | zero => intro _; rfl
    | succ e ih =>
      intro he
      have := hg (b + e + 1) (by omega) (by omega)
      simp at this
      rw [show b + (e + 1) = (b + e) + 1 from rfl, cnt, this, ih (by omega)]; simp
  exact key d (Nat.le_refl _)

theorem Enum.start {p : Nat → Bool} {K b : Nat} (hb : adj p K 0 b) : Enum [] p (b - 1) := by
  refine ⟨?_, fun j hj => absurd hj (Nat.not_lt_zero _)⟩
  rw [cnt_gap hb.1 hb.2.2.2.2]; rfl

theorem Enum.more {O : List Nat} {p : Nat → Bool} {K i b : Nat} (h : Enum O p i) (hi : p i = true) (hb : adj p K (i + 1) b) : Enum (O ++ [i]) p (b - 1) := by
  have hc : cnt p (i + 1) = cnt p i + 1 := by rw [cnt, hi]; simp
  have hlt : i < b - 1 := by have := hb.1; omega
  refine ⟨?_, fun j hj => ?_⟩
  · rw [cnt_gap hb.1 hb.2.2.2.2, hc, List.length_append, h.len]; rfl
  · rw [List.length_append] at hj
    by_cases e : j < O.length
    · have := h.mem j e
      have e2 : (O ++ [i]).getD j 0 = O.getD j 0 := by simp [List.getD, List.getElem?_append_left e]
      rw [e2]; exact ⟨this.1, by omega, this.2.2⟩
    · have ej : j = O.length := by simp at hj; omega
      have e2 : (O ++ [i]).getD j 0 = i := by subst ej; simp [List.getD]
      rw [e2]; exact ⟨hi, hlt, by rw [ej, h.len]⟩

def v64 (O : List Nat) : List Value := O.map fun x : Nat => .int .u64 (x : Int)
theorem v64_push (O : List Nat) (x : Nat) : v64 (O ++ [x]) = v64 O ++ [.int .u64 (x : Int)] := by unfold v64; rw [List.map_append]; rfl

theorem sl_of_owns {w : World} {base : Nat} {v : Value} {O : List Nat} (h : w.ownsRow base 59 1 v O.length (v64 O)) : ∃ a cap, v = .slice a O.length cap ∧ Sl w a O.length (fun j => .int .u64 (O.getD j 0)) := by
  rcases h.2 with ⟨rfl, h2⟩ | ⟨g, cap, cur, rfl, h2, h3, h4, h5, h6, h7⟩
  · rw [h2]; exact ⟨none, 0, rfl, fun h => absurd h (Nat.lt_irrefl 0)⟩
  · refine ⟨_, _, rfl, fun _ => ⟨g, 0, rfl, (h.lt g rfl).2, fun j hj => ?_⟩⟩
    have hc := h.cells (g := g) rfl j (.int .u64 (O.getD j 0 : Nat)) ?_
    · rw [Addr.add_lit] at hc; exact hc
    · unfold v64
      rw [List.getElem?_map, List.getElem?_eq_getElem hj, Option.map_some, List.getD_eq_getElem?_getD, List.getElem?_eq_getElem hj]; rfl

theorem ownsRow_below {w w' : World} {base : Nat} {e : TypeId} {size : Nat} {v : Value} {n : Nat} {xs : List Value} (h : w.ownsRow base e size v n xs) (hb : Below w.heap.size w w') : w'.ownsRow base e size v n xs := by
  refine ⟨h.1, ?_⟩
  rcases h.2 with h2 | ⟨g, cap, cur, h1, h2, h3, h4⟩
  · exact .inl h2
  · have hg : g < w.heap.size := (h.lt g (by rw [h1]; rfl)).2
    exact .inr ⟨g, cap, cur, h1, h2, by rw [hb.block g hg]; exact h3, h4⟩
theorem alloc_bel (w : World) (o : Obj) : Below w.heap.size w (w.alloc o) := (Below.refl _ _).alloc (Nat.le_refl _) _
theorem pushed {B : Nat} {W wr w3 : World} {o : Obj} {u : Value} {m : Nat} {xs : List Value} {t : TypeId} (hO : (wr.alloc o).ownsRow B t 1 u m xs) (hg : (wr.alloc o).grownBy w3 u.ownBlock) (hbel : Below B W wr) (hB : B ≤ wr.heap.size) : Below B W w3 :=
  (hbel.trans ((alloc_bel wr o).mono hB)).trans
    ⟨hg.os, hg.tape, hg.output, hg.size, fun j hj => hg.block j (by rw [World.size_alloc]; omega) (fun e => by have := (hO.lt j e.symm).1; omega)⟩

theorem und38 : Try.prog.underlying 38 = some (.slice 59) := by kernel_rfl
theorem info59 : (Try.prog.info? 59).map (fun i => (i.zero, i.size, i.bytes)) = some (some (.int .u64 0), 1, 8) := by kernel_rfl
theorem parts59 : ∃ i, Try.prog.info? 59 = some i ∧ i.zero = some (.int .u64 0) ∧ i.size = 1 ∧ i.bytes = 8 := by
  obtain ⟨i, hi, hb⟩ := Option.map_eq_some_iff.1 info59
  simp at hb
  exact ⟨i, hi, hb⟩

theorem zlane_walk (hd : Dom pr) (h : Inv w0 w S pr st op) :
    Calls Try.prog 14 #[pt S.I 0, .bool l] w fun e w' => ∃ (O : List Nat) (a : Option Addr) (c : Nat), e = .returned (.tuple #[.slice a O.length c, .int .i64 O.length, .bool (st.fl l)]) ∧ Hid (Enum O (P pr st l) pr.K) ∧ Hid (Sl w' a O.length (fun j => .int .u64 (O.getD j 0))) ∧ Hid (Below w.heap.size w w') := by
  have hK := hd.K
  have HV : Hid (Inv w0 w S pr st op) := h
  obtain ⟨b0, hb0⟩ := adj_succ (P pr st l) pr.K 0 (by omega) (.inl rfl)
  have HA : Hid (adj (P pr st l) pr.K 0 b0) := hb0
  have CF : Hid (Calls Try.prog 21 #[pt S.I (L l)] w fun e w' => e = .returned (nodeP S pr.K b0) ∧ w' = w) := front_rep h hb0
  obtain ⟨i0, hi, hz0, hz1, hz2⟩ := parts59
  have has := assert30
  clear h hb0 hd
  cases l with
  | false =>
    go_enter Try.func14, Try.ntmps14
    go_wp2_with fail
    refine CF.out.mono ?_
    rintro e w' ⟨rfl, rfl⟩
    go_wp2_with fail
    go_loopg [8, 9] (pr.K + 1 - b0) (fun q s8 s9 wr => ∃ (b : Nat) (O : List Nat), b ≤ pr.K + 1 ∧ 1 ≤ b ∧ q = pr.K + 1 - b ∧ s9 = nodeP S pr.K b ∧ Hid (b = pr.K + 1 ∨ P pr st false (b - 1) = true) ∧ Hid (Enum O (P pr st false) (b - 1)) ∧ Hid (wr.ownsRow w'.heap.size 59 1 s8 O.length (v64 O)) ∧ Hid (Below w'.heap.size w' wr))
    case atStart => exact ⟨b0, [], HA.out.2.1, HA.out.1, rfl, rfl, HA.out.2.2.2.1, Enum.start HA.out, World.ownsRow_nil _ _ _ _, Below.refl _ _⟩
    case round =>
      obtain ⟨b, O, hbK, hb1, rfl, rfl, HBp, HE, HO, HBel⟩ := hrel
      by_cases hz : b = pr.K + 1
      · have hnode : nodeP S pr.K b = .pointer none := by rw [nodeP, if_pos hz]
        rw [hnode]
        have hv := HV.out.below HBel.out
        obtain ⟨f, n, H⟩ := hv.lanes false
        have hOn : O.length = n := by rw [HE.out.len, H.num, hz]; rfl
        have c5 : ∃ v c, wr.cell? ⟨S.I, 7 + 5, none⟩ = some (.slice v n c) := by
          by_cases h0 : n = 0
          · obtain ⟨v, c, e⟩ := H.hdr0 h0
            exact ⟨v, c, by rw [hv.rep.iat _ (by decide), h0]; exact congrArg some e⟩
          · exact ⟨_, _, hdr_at hv.rep (H.heap (by omega))⟩
        obtain ⟨v5, cc5, c5⟩ := c5
        have c6 : wr.cell? ⟨S.I, 7 + 6, none⟩ = some (.bool (st.fl false)) := by rw [hv.rep.iat _ (by decide)]; exact congrArg some H.flag
        have HOn : Hid (O.length = n) := hOn
        have HEz : Hid (Enum O (P pr st false) pr.K) := by have := HE.out; rw [hz] at this; exact this
        obtain ⟨a8, c8, e8, hsl⟩ := sl_of_owns HO.out
        subst e8
        have HSl : Hid (Sl wr a8 O.length (fun j => .int .u64 (O.getD j 0))) := hsl
        clear hsl H hv hOn hnode hz HBp HE HO
        simp only [Nat.reduceAdd] at c5 c6
        go_wp2
        go_quiet (fail)
        go_wp2
        go_ret3
        exact ⟨O, a8, c8, by rw [HOn.out]; rfl, HEz, HSl.out.drewN nq, below_drewN HBel.out nq⟩
      · have hp := HBp.out.resolve_left hz
        obtain ⟨x, rfl⟩ : ∃ x, b = x + 1 := ⟨b - 1, by omega⟩
        simp only [Nat.add_sub_cancel] at hp
        have hnode : nodeP S pr.K (x + 1) = pt (S.E x) 0 := by rw [nodeP, if_neg hz, Nat.add_sub_cancel]
        rw [hnode]
        have hv := HV.out.below HBel.out
        obtain ⟨b', hb'⟩ := adj_succ (P pr st false) pr.K (x + 1) (by omega) (.inr hp)
        have HA' : Hid (adj (P pr st false) pr.K (x + 1) b') := hb'
        have HPx : Hid (P pr st false x = true) := hp
        have hxK : x < pr.K := inv_lt hv hp
        have hxW : x < S.nW := by rw [hv.nW]; exact hxK
        have hxE : x < S.nE := by rw [hv.wat.eq]; exact hxW
        have c3 : wr.cell? ⟨S.E x, 3, none⟩ = some (.iface 30 (pt (S.W x) 0)) := by rw [hv.rep.eat x hxE 3 (by decide), hv.wat.val x hxW]
        have d1 : wr.cell? ⟨S.W x, 1, none⟩ = some (.int .u64 x) := (inv_wc hv hxK).2.1
        have HEn : Hid (Enum (O ++ [x]) (P pr st false) (b' - 1)) := Enum.more HE.out hp hb'
        have hO3 := ownsRow_below HO.out (alloc_bel wr (.cells #[.int .u64 (x : Int)] 59))
        have hsz := HBel.out.size
        have hlen : O.length ≤ 65536 := by have := HE.out.len; have := cnt_le (P := P pr st false) (k := x); simp at *; omega
        clear hv hb' hp hnode hxW hxE hz
        go_wp2_with (at_builtin; go_must (refine wpList_append_own _ rfl _ _ 38 rfl w'.heap.size 59 i0 (.int .u64 0) 1 8 und38 hi hz0 hz1 hz2 rfl (by decide) _ _ _ rfl hO3 ⟨wr.heap.size, 0, none⟩ 1 1 [.int .u64 (x : Int)] rfl rfl (cell_one_new _ _ _) (fun x hx => by simp at hx; subst hx; rfl) (by unfold maxLen; omega) (by omega) (by simp; omega) ?_))
        intro v3 w3 hown3 hgrow3 hnil3
        have HR3 : Hid (w3.ownsRow w'.heap.size 59 1 v3 (O ++ [x]).length (v64 (O ++ [x]))) := by rw [v64_push]; simp only [List.length_append, List.length_singleton]; exact hown3
        have HB3 : Hid (Below w'.heap.size w' w3) := pushed hO3 hgrow3 HBel.out hsz
        have CN : Hid (Calls Try.prog 22 #[pt (S.E x) 0] w3 fun e w' => e = .returned (nodeP S pr.K b') ∧ w' = w3) := nextn_rep (HV.out.below HB3.out) HPx.out HA'.out
        clear hown3 hgrow3 hnil3 hO3 hsz
        go_wp2_with fail
        refine CN.out.mono ?_
        rintro e w4 ⟨rfl, rfl⟩
        go_wp2
        go_roundg (pr.K + 1 - b')
        case measure => have := HA'.out.1; have := HA'.out.2.1; omega
        case rel => exact ⟨b', O ++ [x], HA'.out.2.1, by have := HA'.out.1; omega, rfl, rfl, HA'.out.2.2.2.1, HEn, HR3, HB3⟩
  | true =>
    go_enter Try.func14, Try.ntmps14
    go_wp2_with fail
    refine CF.out.mono ?_
    rintro e w' ⟨rfl, rfl⟩
    go_wp2_with fail
    go_loopg [8, 9] (pr.K + 1 - b0) (fun q s8 s9 wr => ∃ (b : Nat) (O : List Nat), b ≤ pr.K + 1 ∧ 1 ≤ b ∧ q = pr.K + 1 - b ∧ s9 = nodeP S pr.K b ∧ Hid (b = pr.K + 1 ∨ P pr st true (b - 1) = true) ∧ Hid (Enum O (P pr st true) (b - 1)) ∧ Hid (wr.ownsRow w'.heap.size 59 1 s8 O.length (v64 O)) ∧ Hid (Below w'.heap.size w' wr))
    case atStart => exact ⟨b0, [], HA.out.2.1, HA.out.1, rfl, rfl, HA.out.2.2.2.1, Enum.start HA.out, World.ownsRow_nil _ _ _ _, Below.refl _ _⟩
    case round =>
      obtain ⟨b, O, hbK, hb1, rfl, rfl, HBp, HE, HO, HBel⟩ := hrel
      by_cases hz : b = pr.K + 1
      · have hnode : nodeP S pr.K b = .pointer none := by rw [nodeP, if_pos hz]
        rw [hnode]
        have hv := HV.out.below HBel.out
        obtain ⟨f, n, H⟩ := hv.lanes true
        have hOn : O.length = n := by rw [HE.out.len, H.num, hz]; rfl
        have c5 : ∃ v c, wr.cell? ⟨S.I, 14 + 5, none⟩ = some (.slice v n c) := by
          by_cases h0 : n = 0
          · obtain ⟨v, c, e⟩ := H.hdr0 h0
            exact ⟨v, c, by rw [hv.rep.iat _ (by decide), h0]; exact congrArg some e⟩
          · exact ⟨_, _, hdr_at hv.rep (H.heap (by omega))⟩
        obtain ⟨v5, cc5, c5⟩ := c5
        have c6 : wr.cell? ⟨S.I, 14 + 6, none⟩ = some (.bool (st.fl true)) := by rw [hv.rep.iat _ (by decide)]; exact congrArg some H.flag
        have HOn : Hid (O.length = n) := hOn
        have HEz : Hid (Enum O (P pr st true) pr.K) := by have := HE.out; rw [hz] at this; exact this
        obtain ⟨a8, c8, e8, hsl⟩ := sl_of_owns HO.out
        subst e8
        have HSl : Hid (Sl wr a8 O.length (fun j => .int .u64 (O.getD j 0))) := hsl
        clear hsl H hv hOn hnode hz HBp HE HO
        simp only [Nat.reduceAdd] at c5 c6
        go_wp2
        go_quiet (fail)
        go_wp2
        go_ret3
        exact ⟨O, a8, c8, by rw [HOn.out]; rfl, HEz, HSl.out.drewN nq, below_drewN HBel.out nq⟩
      · have hp := HBp.out.resolve_left hz
        obtain ⟨x, rfl⟩ : ∃ x, b = x + 1 := ⟨b - 1, by omega⟩
        simp only [Nat.add_sub_cancel] at hp
        have hnode : nodeP S pr.K (x + 1) = pt (S.E x) 0 := by rw [nodeP, if_neg hz, Nat.add_sub_cancel]
        rw [hnode]
        have hv := HV.out.below HBel.out
        obtain ⟨b', hb'⟩ := adj_succ (P pr st true) pr.K (x + 1) (by omega) (.inr hp)
        have HA' : Hid (adj (P pr st true) pr.K (x + 1) b') := hb'
        have HPx : Hid (P pr st true x = true) := hp
        have hxK : x < pr.K := inv_lt hv hp
        have hxW : x < S.nW := by rw [hv.nW]; exact hxK
        have hxE : x < S.nE := by rw [hv.wat.eq]; exact hxW
        have c3 : wr.cell? ⟨S.E x, 3, none⟩ = some (.iface 30 (pt (S.W x) 0)) := by rw [hv.rep.eat x hxE 3 (by decide), hv.wat.val x hxW]
        have d1 : wr.cell? ⟨S.W x, 1, none⟩ = some (.int .u64 x) := (inv_wc hv hxK).2.1
        have HEn : Hid (Enum (O ++ [x]) (P pr st true) (b' - 1)) := Enum.more HE.out hp hb'
        have hO3 := ownsRow_below HO.out (alloc_bel wr (.cells #[.int .u64 (x : Int)] 59))
        have hsz := HBel.out.size
        have hlen : O.length ≤ 65536 := by have := HE.out.len; have := cnt_le (P := P pr st true) (k := x); simp at *; omega
        clear hv hb' hp hnode hxW hxE hz
        go_wp2_with (at_builtin; go_must (refine wpList_append_own _ rfl _ _ 38 rfl w'.heap.size 59 i0 (.int .u64 0) 1 8 und38 hi hz0 hz1 hz2 rfl (by decide) _ _ _ rfl hO3 ⟨wr.heap.size, 0, none⟩ 1 1 [.int .u64 (x : Int)] rfl rfl (cell_one_new _ _ _) (fun x hx => by simp at hx; subst hx; rfl) (by unfold maxLen; omega) (by omega) (by simp; omega) ?_))
        intro v3 w3 hown3 hgrow3 hnil3
        have HR3 : Hid (w3.ownsRow w'.heap.size 59 1 v3 (O ++ [x]).length (v64 (O ++ [x]))) := by rw [v64_push]; simp only [List.length_append, List.length_singleton]; exact hown3
        have HB3 : Hid (Below w'.heap.size w' w3) := pushed hO3 hgrow3 HBel.out hsz
        have CN : Hid (Calls Try.prog 22 #[pt (S.E x) 0] w3 fun e w' => e = .returned (nodeP S pr.K b') ∧ w' = w3) := nextn_rep (HV.out.below HB3.out) HPx.out HA'.out
        clear hown3 hgrow3 hnil3 hO3 hsz
        go_wp2_with fail
        refine CN.out.mono ?_
        rintro e w4 ⟨rfl, rfl⟩
        go_wp2
        go_roundg (pr.K + 1 - b')
        case measure => have := HA'.out.1; have := HA'.out.2.1; omega
        case rel => exact ⟨b', O ++ [x], HA'.out.2.1, by have := HA'.out.1; omega, rfl, rfl, HA'.out.2.2.2.1, HEn, HR3, HB3⟩
end Go.Proofs.Qxb6616981a
