/-
  heap.Push, walked on the typed cells.
-/
import Derived.Test.Qxb6616981aDown
import Derived.Test.Qxb6616981aNew
namespace Go.Proofs.Qxb6616981a
open Go.RowKit

set_option maxRecDepth 100000
set_option maxHeartbeats 4000000

variable {w0 w : World} {S : St} {l : Bool} {f : Nat → Nat} {n : Nat} {sz : Nat → Int}

/-- A lane's heap as it grows: never used, or n places. -/
def Grows (S : St) (l : Bool) (f : Nat → Nat) (n : Nat) : Prop := (n = 0 ∧ S.ic (L l + 5) = .slice none 0 0) ∨ (0 < n ∧ HeapAt S l f n)

theorem spush_rep {Q : Nat → Prop} {x : Nat} (h : Rep w0 w S) (hg : Grows S l f n) (hn : n ≤ 1000000) (hx : x < S.nW) (hQ : Q x) (hne : ∀ j, j < n → f j ≠ x) :
    Calls Try.prog 59 #[pt S.I (L l + 5), .iface 30 (pt (S.W x) 0)] w fun e w' => e = .returned (.tuple #[]) ∧ ∃ S', Hid (Rep w0 w' S') ∧ Hid (HeapAt S' l (Hp.ad f n x) (n + 1)) ∧ Hid (HFrame Q l S S') := by
  have hL := L_le l
  have hIW : ¬ S.I = S.W x := fun e => h.sWI x hx e.symm
  rcases hg with ⟨rfl, h0⟩ | ⟨hp, H⟩
  · obtain ⟨arr, h1, h2, hc⟩ := push_nil S.I (L l + 5) (S.W x) (S.wc x 4) w (by rw [h.iat _ (by omega), h0]) (h.wat x hx 4 (by omega)) hIW (h.ifr _) (h.wfr x hx 4)
    refine hc.mono ?_
    rintro e w' ⟨rfl, rfl⟩
    have R1 := ((h.setW (k := x) (o := 4) hx (by omega) (.int .i64 0)).alloc (oneO (S.W x))).drew
    have R2 := R1.newRow l arr 30
    have R3 := R2.setI (o := L l + 5) (by omega) (.slice (some ⟨w.heap.size + 1, 0, none⟩) (0 + 1) arr.size)
    have hsz : ((w.setCell ⟨S.W x, 4, none⟩ (.int .i64 0)).alloc (oneO (S.W x))).drew.heap.size = w.heap.size + 1 := by
      show ((w.setCell ⟨S.W x, 4, none⟩ (.int .i64 0)).alloc (oneO (S.W x))).heap.size = w.heap.size + 1
      simp
    refine ⟨rfl, _, R3, ?_, ?_⟩
    · rw [hsz]
      refine ⟨?_, ?_, fun j hj => ?_, fun j hj => ?_, fun j hj => ?_, fun j k hj hk _ => by omega⟩
      · show u1 _ (L l + 5) _ (L l + 5) = .slice (some ⟨ul S.G l (w.heap.size + 1) l, 0, none⟩) _ (ul S.cap l arr.size l)
        simp [u1, ul]
      · show 0 + 1 ≤ ul S.cap l arr.size l
        simp [ul]; omega
      · have : j = 0 := by omega
        subst this
        show ul S.hc l (arrAt arr) l 0 = pt (S.W (Hp.ad f 0 x 0)) 0
        simp [ul, arrAt, h2, Hp.ad]
      · have : j = 0 := by omega
        subst this
        show Hp.ad f 0 x 0 < S.nW
        simp [Hp.ad, hx]
      · have : j = 0 := by omega
        subst this
        show u2 S.wc x 4 _ (Hp.ad f 0 x 0) 4 = _
        simp [Hp.ad, u2]
    · refine ⟨rfl, fun o ho => ?_, fun l' hl => ?_, fun l' hl => ?_, fun l' hl => ?_, fun i o hi => ?_⟩
      · show u1 S.ic (L l + 5) _ o = S.ic o
        simp [u1, ho]
      · show ul S.G l _ l' = S.G l'
        simp [ul, hl]
      · show ul S.cap l _ l' = S.cap l'
        simp [ul, hl]
      · show ul S.hc l _ l' = S.hc l'
        simp [ul, hl]
      · show u2 S.wc x 4 _ i o = S.wc i o
        unfold u2
        rw [if_neg]
        rintro ⟨e1, e2⟩
        rcases hi with hi | hi
        · exact hi e2
        · exact hi (e1 ▸ hQ)
  · have hcap := H.cap
    by_cases hroom : n < S.cap l
    · have hl : 0 < S.cap l := by omega
      refine (push_room S.I (L l + 5) (S.G l) n (S.cap l) (S.W x) (S.wc x 4) (S.hc l n) w hroom (hdr_at h H) (h.wat x hx 4 (by omega)) (h.hat l n hroom) hIW (h.sGW l x hl hx) (h.sGI l hl) (h.ifr _) (h.wfr x hx 4) (h.hfr l hl n)).mono ?_
      rintro e w' ⟨rfl, rfl⟩
      have R1 := (h.setW (k := x) (o := 4) hx (by omega) (.int .i64 n)).alloc (oneO (S.W x))
      have R2 := R1.setH (l := l) (o := n) hroom (pt (S.W x) 0)
      have R3 := R2.setI (o := L l + 5) (by omega) (.slice (some ⟨S.G l, 0, none⟩) (n + 1) (S.cap l))
      refine ⟨rfl, _, R3, ?_, ?_⟩
      · refine ⟨?_, hroom, fun j hj => ?_, fun j hj => ?_, fun j hj => ?_, fun j k hj hk e => ?_⟩
        · show u1 _ (L l + 5) _ (L l + 5) = _
          simp [u1]
        · show uh S.hc l n _ l j = pt (S.W (Hp.ad f n x j)) 0
          unfold uh Hp.ad
          by_cases e : j = n
          · simp [e]
          · simp [e]; exact H.row j (by omega)
        · show Hp.ad f n x j < S.nW
          unfold Hp.ad
          split
          · exact hx
          · exact H.lt j (by omega)
        · show u2 S.wc x 4 _ (Hp.ad f n x j) 4 = .int .i64 j
          unfold u2 Hp.ad
          by_cases e : j = n
          · simp [e]
          · have := hne j (by omega)
            simp [e, this]; exact H.at_ j (by omega)
        · exact ((Hp.Mem.push (P := fun y => ∃ j, j < n ∧ f j = y) (Q := fun y => (∃ j, j < n ∧ f j = y) ∨ y = x) ⟨fun j hj => ⟨j, hj, rfl⟩, fun i hi => hi, H.inj⟩ (fun ⟨j, hj, e⟩ => hne j hj e) (fun i => Iff.rfl)).inj j k hj hk e)
      · refine ⟨rfl, fun o ho => ?_, fun l' hl => rfl, fun l' hl => rfl, fun l' hl => ?_, fun i o hi => ?_⟩
        · show u1 S.ic (L l + 5) _ o = S.ic o
          simp [u1, ho]
        · funext k
          show uh S.hc l n _ l' k = S.hc l' k
          simp [uh, hl]
        · show u2 S.wc x 4 _ i o = S.wc i o
          unfold u2
          rw [if_neg]
          rintro ⟨e1, e2⟩
          rcases hi with hi | hi
          · exact hi e2
          · exact hi (e1 ▸ hQ)
    · have hl : 0 < S.cap l := by omega
      obtain ⟨arr, h1, h2, h3, hc⟩ := push_grow S.I (L l + 5) (S.G l) n (S.cap l) (S.W x) (S.wc x 4) (S.hc l) w hn (by omega) (hdr_at h H) (h.wat x hx 4 (by omega)) (fun j hj => h.hat l j (by omega)) hp hIW (h.sGW l x hl hx) (h.ifr _) (h.wfr x hx 4)
      refine hc.mono ?_
      rintro e w' ⟨rfl, rfl⟩
      have R1 := ((h.setW (k := x) (o := 4) hx (by omega) (.int .i64 n)).alloc (oneO (S.W x))).drew
      have R2 := R1.newRow l arr 30
      have R3 := R2.setI (o := L l + 5) (by omega) (.slice (some ⟨w.heap.size + 1, 0, none⟩) (n + 1) arr.size)
      have hsz : ((w.setCell ⟨S.W x, 4, none⟩ (.int .i64 n)).alloc (oneO (S.W x))).drew.heap.size = w.heap.size + 1 := by
        show ((w.setCell ⟨S.W x, 4, none⟩ (.int .i64 n)).alloc (oneO (S.W x))).heap.size = w.heap.size + 1
        simp
      refine ⟨rfl, _, R3, ?_, ?_⟩
      · rw [hsz]
        refine ⟨?_, ?_, fun j hj => ?_, fun j hj => ?_, fun j hj => ?_, fun j k hj hk e => ?_⟩
        · show u1 _ (L l + 5) _ (L l + 5) = .slice (some ⟨ul S.G l (w.heap.size + 1) l, 0, none⟩) _ (ul S.cap l arr.size l)
          simp [u1, ul]
        · show n + 1 ≤ ul S.cap l arr.size l
          simp [ul]; omega
        · show ul S.hc l (arrAt arr) l j = pt (S.W (Hp.ad f n x j)) 0
          unfold ul Hp.ad
          by_cases e : j = n
          · subst e; simp [arrAt, h3]
          · simp only [if_true, e, if_false, arrAt]; rw [h2 j (by omega)]; exact H.row j (by omega)
        · show Hp.ad f n x j < S.nW
          unfold Hp.ad
          split
          · exact hx
          · exact H.lt j (by omega)
        · show u2 S.wc x 4 _ (Hp.ad f n x j) 4 = .int .i64 j
          unfold u2 Hp.ad
          by_cases e : j = n
          · simp [e]
          · have := hne j (by omega)
            simp [e, this]; exact H.at_ j (by omega)
        · exact ((Hp.Mem.push (P := fun y => ∃ j, j < n ∧ f j = y) (Q := fun y => (∃ j, j < n ∧ f j = y) ∨ y = x) ⟨fun j hj => ⟨j, hj, rfl⟩, fun i hi => hi, H.inj⟩ (fun ⟨j, hj, e⟩ => hne j hj e) (fun i => Iff.rfl)).inj j k hj hk e)
      · refine ⟨rfl, fun o ho => ?_, fun l' hl => ?_, fun l' hl => ?_, fun l' hl => ?_, fun i o hi => ?_⟩
        · show u1 S.ic (L l + 5) _ o = S.ic o
          simp [u1, ho]
        · show ul S.G l _ l' = S.G l'
          simp [ul, hl]
        · show ul S.cap l _ l' = S.cap l'
          simp [ul, hl]
        · show ul S.hc l _ l' = S.hc l'
          simp [ul, hl]
        · show u2 S.wc x 4 _ i o = S.wc i o
          unfold u2
          rw [if_neg]
          rintro ⟨e1, e2⟩
          rcases hi with hi | hi
          · exact hi e2
          · exact hi (e1 ▸ hQ)

theorem hpush_rep {P Q : Nat → Prop} {x : Nat} (h : Rep w0 w S) (hg : Grows S l f n) (hs : SzAt S sz) (hP : Hp.Mem f n P) (hQ : ∀ i, Q i ↔ P i ∨ i = x) (hPx : ¬ P x) (hn : n ≤ 1000000) (hx : x < S.nW) (hh : Hp.Heap sz f n) :
    Calls Try.prog 19 #[.iface 69 (pt S.I (L l + 5)), .iface 30 (pt (S.W x) 0)] w fun e w' => e = .returned (.tuple #[]) ∧ ∃ S' f', Hid (Rep w0 w' S') ∧ Hid (HeapAt S' l f' (n + 1)) ∧ Hid (HFrame Q l S S') ∧ Hid (Hp.Mem f' (n + 1) Q) ∧ Hid (Hp.Heap sz f' (n + 1)) := by
  have HC : Hid (Calls Try.prog 59 #[pt S.I (L l + 5), .iface 30 (pt (S.W x) 0)] w fun e w' => e = .returned (.tuple #[]) ∧ ∃ S', Hid (Rep w0 w' S') ∧ Hid (HeapAt S' l (Hp.ad f n x) (n + 1)) ∧ Hid (HFrame Q l S S')) :=
    spush_rep h hg hn hx ((hQ x).2 (.inr rfl)) (fun j hj e => hPx (e ▸ hP.mem j hj))
  have HM : Hid (Hp.Mem (Hp.ad f n x) (n + 1) Q) := hP.push hPx hQ
  have HS : Hid (SzAt S sz) := hs
  have HU : Hid (Hp.UpI sz (Hp.ad f n x) (n + 1) n) := Hp.push_start hh
  clear h hg hs hP hQ hPx hx hh
  go_enter Try.func19, Try.ntmps19
  go_wp2_with fail
  refine HC.out.mono ?_
  rintro e w1 ⟨rfl, S1, HR1, HH1, HF1⟩
  have hI : S1.I = S.I := by rw [HF1.out.same]
  have hm1 := meth_run mLen S.I (L l + 5) _ w1 (by have := hdr_at HR1.out HH1.out; rw [hI] at this; exact this)
  have HC2 : Hid (Calls Try.prog 54 #[.slice (some ⟨S1.G l, 0, none⟩) (n + 1) (S1.cap l)] w1 fun e w' => e = .returned (.int .i64 ((n + 1 : Nat) : Int)) ∧ w' = w1) := len_any _ _ _ _
  have HC3 : Hid (∀ v : Int, v = n → Calls Try.prog 25 #[.iface 69 (pt S.I (L l + 5)), .int .i64 v] w1 fun e w' => e = .returned (.tuple #[]) ∧ ∃ S' f', Hid (Rep w0 w' S') ∧ Hid (HeapAt S' l f' (n + 1)) ∧ Hid (HFrame Q l S S') ∧ Hid (Hp.Mem f' (n + 1) Q) ∧ Hid (Hp.Heap sz f' (n + 1))) := by
    rintro v rfl
    rw [← hI]
    refine (up_rep (n + 1) n HR1.out HH1.out (HF1.out.sz HS.out) HM.out (Nat.le_refl _) (by omega) (by omega) HU.out).mono ?_
    rintro e w' ⟨rfl, S2, f2, a, b, c, d, e, _⟩
    exact ⟨rfl, S2, f2, a, b, HF1.out.trans c.out, d, e⟩
  clear hI
  go_wp2_with fail
  refine HC2.out.mono ?_
  rintro e w' ⟨rfl, rfl⟩
  go_wp2_with fail
  refine (HC3.out _ (by omega)).mono ?_
  rintro e w' ⟨rfl, h⟩
  go_wp2
  exact bodyPost_end (v := .tuple #[]) (by simp [results, Try.results19]) rfl ⟨rfl, h⟩
end Go.Proofs.Qxb6616981a
