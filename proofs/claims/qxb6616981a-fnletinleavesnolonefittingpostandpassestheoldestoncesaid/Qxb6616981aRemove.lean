/-
  lane.remove, walked.
-/
import Derived.Test.Qxb6616981aLinks
import Derived.Deep.RegionWith
namespace Go.Proofs.Qxb6616981a
open Go.RowKit

set_option maxRecDepth 100000
set_option maxHeartbeats 4000000

/-- The walk alone: what the three callees do is given. -/
theorem rem_walk (ib o wx eb wo j : Nat) (t : Bool) (v6 : Value) (w : World) (R2 R3 : World → Prop)
    (h1 : Hid (Calls Try.prog 27 #[pt ib o] w fun e w' => e = .returned (pt wo 0) ∧ w' = w)) (hneq : (binOp .neq 30 (pt wx 0) (pt wo 0)).run Try.prog w = .ok (.bool t) w)
    (c6 : w.cell? ⟨ib, o + 6, none⟩ = some v6) (f6 : w.frozen? ⟨ib, o + 6, none⟩ = false)
    (w1 : World) (hw1 : w1 = w.setCell ⟨ib, o + 6, none⟩ (.bool t)) (c3 : w1.cell? ⟨wx, 3, none⟩ = some (pt eb 0))
    (h2 : Hid (Calls Try.prog 33 #[pt ib o, pt eb 0] w1.drew fun e w' => (∃ a b, e = .returned (.iface a b)) ∧ Hid (R2 w')))
    (h3 : Hid (∀ w2, R2 w2 → w2.cell? ⟨wx, 4, none⟩ = some (.int .i64 j) ∧ Calls Try.prog 34 #[.iface 69 (pt ib (o + 5)), .int .i64 j] w2.drew fun e w' => (∃ v, e = .returned v) ∧ Hid (R3 w'))) :
    Calls Try.prog 29 #[pt ib o, pt wx 0] w fun e w' => e = .returned (.tuple #[]) ∧ Hid (R3 w') := by
  have HW : Hid (w1 = w.setCell ⟨ib, o + 6, none⟩ (.bool t)) := hw1
  clear hw1
  go_enter Try.func29, Try.ntmps29
  go_wp2_with fail
  refine h1.out.mono ?_
  rintro e w' ⟨rfl, rfl⟩
  go_wp2_with fail
  rw [← HW.out]
  go_region_with (
    refine h2.out.mono ?_
    rintro e w2 ⟨⟨ra, rb, rfl⟩, HR2⟩
    have c4 := (h3.out w2 HR2).1)
  go_wp2_with fail
  go_region_with (
    refine (h3.out w2 HR2).2.mono ?_
    rintro e w3 ⟨⟨rv, rfl⟩, HR3⟩)
  go_wp2
  exact bodyPost_end (v := .tuple #[]) (by simp [results, Try.results29]) rfl ⟨rfl, HR3⟩

structure LFr (l : Bool) (p : Nat → Bool) (S S' : St) : Prop where
  same : S' = { S with ic := S'.ic, ec := S'.ec, G := S'.G, cap := S'.cap, hc := S'.hc, wc := S'.wc }
  ic : ∀ o, (o < L l ∨ L l + 7 ≤ o) → S'.ic o = S.ic o
  ec : ∀ i o, (o = 3 ∨ p i = false) → S'.ec i o = S.ec i o
  G : ∀ l', l' ≠ l → S'.G l' = S.G l'
  cap : ∀ l', l' ≠ l → S'.cap l' = S.cap l'
  hc : ∀ l', l' ≠ l → S'.hc l' = S.hc l'
  wc : ∀ i o, (o ≠ 4 ∨ p i = false) → S'.wc i o = S.wc i o

variable {w0 w : World} {S S' : St} {K : Nat} {sz : Nat → Int} {l : Bool} {p Q : Nat → Bool} {fg : Bool} {f : Nat → Nat} {n : Nat}

theorem LFr.sees (h : LFr l p S S') {l' : Bool} (hl : l' ≠ l) {q : Nat → Bool} (hq : ∀ i, q i = true → p i = false) : Sees l' q S S' where
  I := by rw [h.same]
  nW := by rw [h.same]; exact Nat.le_refl _
  nE := by rw [h.same]; exact Nat.le_refl _
  E := fun i _ => by rw [h.same]
  W := fun i _ => by rw [h.same]
  ic := fun o h1 h2 => h.ic o (by
    cases l <;> cases l'
    · exact absurd rfl hl
    · have a : L false = 7 := rfl
      have b : L true = 14 := rfl
      omega
    · have a : L false = 7 := rfl
      have b : L true = 14 := rfl
      omega
    · exact absurd rfl hl)
  ec := fun i o hi _ => h.ec i o (.inr (hq i hi))
  hc := h.hc l' hl
  G := h.G l' hl
  cap := h.cap l' hl
  wc := fun i hi => h.wc i 4 (.inr (hq i hi))

theorem remove_rep {x old : Nat} (h : Rep w0 w S) (hW : WAt S sz) (H : LaneAt S K sz l p fg f n) (hK : K ≤ 65536) (hx : p x = true) (ho : p old = true) (ho2 : ∀ j, p j = true → old ≤ j) (hQ : ∀ i, Q i = (p i && decide (i ≠ x))) :
    Calls Try.prog 29 #[pt S.I (L l), pt (S.W x) 0] w fun e w' => e = .returned (.tuple #[]) ∧ Hid (∃ S' f', Rep w0 w' S' ∧ WAt S' sz ∧ LaneAt S' K sz l Q (decide (x ≠ old)) f' (n - 1) ∧ LFr l p S S') := by
  have hL := L_le l
  obtain ⟨xK, xE, xW⟩ := H.plt x hx
  obtain ⟨oK, oE, oW⟩ := H.plt old ho
  have hn := lane_pos H hx
  have hnK : n ≤ K := by rw [H.num]; exact cnt_le
  obtain ⟨m, rfl⟩ : ∃ m, n = m + 1 := ⟨n - 1, by omega⟩
  have HG := H.heap hn
  obtain ⟨j, hj, hfj⟩ := H.mem.all x hx
  have hneq := neq30 (ao := 0) (bo := 0) (h.ptrW xW) (h.ptrW oW)
  have ht : (!decide (S.W x = S.W old ∧ 0 = 0)) = decide (x ≠ old) := by
    by_cases e : x = old
    · subst e; simp
    · have : ¬ S.W x = S.W old := fun e2 => e (h.sWW _ _ xW oW e2)
      simp [e, this]
  rw [ht] at hneq
  have R1 := h.setI (o := L l + 6) (by omega) (.bool (decide (x ≠ old)))
  have cmp : cnt p K = cnt Q K + 1 := cnt_one (x := x) (by rw [hQ]; simp) hx (fun i hi => by rw [hQ]; simp [hi]) K xK
  have hi1 : ∀ o, o ≠ L l + 6 → u1 S.ic (L l + 6) (.bool (decide (x ≠ old))) o = S.ic o := fun o ho => by simp [u1, ho]
  refine rem_walk S.I (L l) (S.W x) (S.E x) (S.W old) j (decide (x ≠ old)) (S.ic (L l + 6)) w
    (fun w' => ∃ S2, Rep w0 w' S2 ∧ LRem { S with ic := u1 S.ic (L l + 6) (.bool (decide (x ≠ old))) } S2 K l p Q (m + 1))
    (fun w' => ∃ S' f', Rep w0 w' S' ∧ WAt S' sz ∧ LaneAt S' K sz l Q (decide (x ≠ old)) f' (m + 1 - 1) ∧ LFr l p S S')
    (oldest_rep h hW H ho ho2) hneq (h.iat _ (by omega)) (h.ifr _) _ rfl (by rw [cell_other (.inl (h.sWI x xW)), h.wat x xW 3 (by omega), hW.came x xW]) ?_ ?_
  · refine (lrem_rep (K := K) (p := p) (Q := Q) (n := m + 1) R1.drew (fun i hi => ⟨(H.plt i hi).1, (H.plt i hi).2.1⟩) ?_ hn (by omega) ?_ (fun i hi => H.own i hi) hx hQ).mono ?_
    · exact (hi1 _ (by omega)).trans H.len
    · intro a b hab
      obtain ⟨c1, c2⟩ := H.chain hn a b hab
      refine ⟨?_, ?_⟩
      · rw [show nx { S with ic := u1 S.ic (L l + 6) (.bool (decide (x ≠ old))) } l a = nx S l a from by unfold nx; simp only []; rw [hi1 _ (by omega)]]; exact c1
      · rw [show pv { S with ic := u1 S.ic (L l + 6) (.bool (decide (x ≠ old))) } l K b = pv S l K b from by unfold pv; simp only []; rw [hi1 _ (by omega)]]; exact c2
    · rintro e w' ⟨rfl, S2, a, b⟩
      exact ⟨⟨_, _, by rw [show (Value.iface 30 (pt (S.W x) 0)) = S.ec x 3 from (hW.val x xW).symm]⟩, S2, a.out, b.out⟩
  · rintro w2 ⟨S2, A, B⟩
    have sI : S2.I = S.I := by rw [B.same]
    have sW : S2.W = S.W := by rw [B.same]
    have sE : S2.E = S.E := by rw [B.same]
    have swc : S2.wc = S.wc := by rw [B.same]
    have shc : S2.hc = S.hc := by rw [B.same]
    have sG : S2.G = S.G := by rw [B.same]
    have scap : S2.cap = S.cap := by rw [B.same]
    have snW : S2.nW = S.nW := by rw [B.same]
    have snE : S2.nE = S.nE := by rw [B.same]
    have sCh : S2.Ch = S.Ch := by rw [B.same]
    have sic : ∀ o, o ≠ L l → o ≠ L l + 1 → o ≠ L l + 4 → o ≠ L l + 6 → S2.ic o = S.ic o := fun o a b c d => (B.ic o a b c).trans (hi1 o d)
    have H2 : HeapAt S2 l f (m + 1) := by
      refine ⟨?_, by rw [scap]; exact HG.cap, fun k hk => by rw [shc, sW]; exact HG.row k hk, fun k hk => by rw [snW]; exact HG.lt k hk, fun k hk => by rw [swc]; exact HG.at_ k hk, HG.inj⟩
      rw [sic _ (by omega) (by omega) (by omega) (by omega), sG, scap]; exact HG.hdr
    have Z2 : SzAt S2 sz := fun i hi => by rw [swc]; rw [snW] at hi; exact hW.sz i hi
    refine ⟨?_, ?_⟩
    · rw [← sW, A.wat x (by rw [snW]; exact xW) 4 (by omega), swc, ← hfj, HG.at_ j hj]
    · rw [← sI]
      refine (hrem_rep (P := fun i => p i = true) (Q := fun i => Q i = true) (x := x) A.drew H2 Z2 H.mem (by omega) hfj (fun i => by rw [hQ]; simp) (by omega) H.hp).mono ?_
      rintro e w' ⟨v, rfl, S3, f3, r1, r2, r3, r4, r5⟩
      refine ⟨⟨v, rfl⟩, S3, f3, r1.out, ?_, ?_, ?_⟩
      · have F := r3.out
        have tW : S3.W = S.W := by rw [F.same]; exact sW
        have tE : S3.E = S.E := by rw [F.same]; exact sE
        have tnW : S3.nW = S.nW := by rw [F.same]; exact snW
        have tnE : S3.nE = S.nE := by rw [F.same]; exact snE
        have tCh : S3.Ch = S.Ch := by rw [F.same]; exact sCh
        have tec : S3.ec = S2.ec := by rw [F.same]
        refine ⟨by rw [tnE, tnW]; exact hW.eq, F.sz Z2, fun i hi => ?_, fun i hi => ?_, fun i hi => ?_⟩
        · rw [tnW] at hi; rw [F.wc i 2 (.inl (by decide)), swc, tCh]; exact hW.ch i hi
        · rw [tnW] at hi; rw [F.wc i 3 (.inl (by decide)), swc, tE]; exact hW.came i hi
        · rw [tnW] at hi; rw [tec, tW, B.ec i 3 (.inl rfl)]; exact hW.val i hi
      · have F := r3.out
        have tI : S3.I = S2.I := by rw [F.same]
        have tE : S3.E = S2.E := by rw [F.same]
        have tnW : S3.nW = S.nW := by rw [F.same]; exact snW
        have tnE : S3.nE = S.nE := by rw [F.same]; exact snE
        have tec : S3.ec = S2.ec := by rw [F.same]
        refine ⟨fun i hi => ?_, ?_, ?_, ?_, fun h0 => ?_, fun _ => r2.out, r4.out, r5.out, fun _ a b hab => ?_, fun i hi => ?_⟩
        · rw [hQ] at hi
          have : p i = true ∧ i ≠ x := by simpa using hi
          rw [tnE, tnW]; exact H.plt i this.1
        · have := H.num; omega
        · rw [F.ic _ (by omega), B.len]; congr 1; omega
        · rw [F.ic _ (by omega), B.ic _ (by omega) (by omega) (by omega)]; simp [u1]
        · have := r2.out.hdr
          have h0 : m = 0 := by omega
          rw [this, h0]; exact ⟨_, _, rfl⟩
        · obtain ⟨c1, c2⟩ := B.chain a b hab
          have nd3 : ∀ c, nd S3 l K c = nd S2 l K c := fun c => by unfold nd blk; rw [tI, tE]
          refine ⟨?_, ?_⟩
          · rw [nd3, ← c1]; unfold nx; rw [tec, F.ic _ (by omega)]
          · rw [nd3, ← c2]; unfold pv; rw [tec, F.ic _ (by omega)]
        · rw [tec, tI]; exact B.own i hi
      · have F := r3.out
        refine ⟨?_, fun o ho => ?_, fun i o hio => ?_, fun l' hl => ?_, fun l' hl => ?_, fun l' hl => ?_, fun i o hio => ?_⟩
        · rw [F.same, B.same]
        · rw [F.ic _ (by omega)]; exact sic o (by omega) (by omega) (by omega) (by omega)
        · rw [show S3.ec = S2.ec from by rw [F.same]]; exact B.ec i o hio
        · rw [F.G l' hl, sG]
        · rw [F.cap l' hl, scap]
        · rw [F.hc l' hl, shc]
        · rw [F.wc i o (hio.imp_right (fun h => by rw [h]; simp)), swc]
end Go.Proofs.Qxb6616981a
