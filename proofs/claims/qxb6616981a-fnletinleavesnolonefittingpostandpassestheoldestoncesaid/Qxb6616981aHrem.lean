/-
  heap.Remove, walked on the typed cells.
-/
import Derived.Test.Qxb6616981aHpush
namespace Go.Proofs.Qxb6616981a
open Go.RowKit

set_option maxRecDepth 100000
set_option maxHeartbeats 4000000

variable {w0 w : World} {S : St} {l : Bool} {f : Nat → Nat} {n : Nat} {sz : Nat → Int}

theorem spop_rep {Q : Nat → Prop} (h : Rep w0 w S) (H : HeapAt S l f (n + 1)) (hn : n < 1000000) :
    Calls Try.prog 58 #[pt S.I (L l + 5)] w fun e w' => e = .returned (.iface 30 (pt (S.W (f n)) 0)) ∧ ∃ S', Hid (Rep w0 w' S') ∧ Hid (HeapAt S' l f n) ∧ Hid (HFrame Q l S S') := by
  have hL := L_le l
  have hcap := H.cap
  have hl : 0 < S.cap l := by omega
  refine (pop_any S.I (L l + 5) (S.G l) n (S.cap l) (S.W (f n)) w (by omega) hcap (h.sGI l hl) (hdr_at h H) (by rw [h.hat l n (by omega), H.row n (by omega)]) (h.ifr _) (h.hfr l hl n)).mono ?_
  rintro e w' ⟨rfl, rfl⟩
  have R1 := h.setH (l := l) (o := n) (by omega) (.pointer none)
  have R2 := R1.setI (o := L l + 5) (by omega) (.slice (some ⟨S.G l, 0, none⟩) n (S.cap l))
  refine ⟨rfl, _, R2, ?_, ?_⟩
  · refine ⟨?_, by show n ≤ S.cap l; omega, fun j hj => ?_, fun j hj => H.lt j (by omega), fun j hj => H.at_ j (by omega), fun j k hj hk => H.inj j k (by omega) (by omega)⟩
    · show u1 _ (L l + 5) _ (L l + 5) = _
      simp [u1]
    · show uh S.hc l n _ l j = pt (S.W (f j)) 0
      have : ¬ j = n := by omega
      simp [uh, this]; exact H.row j (by omega)
  · refine ⟨rfl, fun o ho => ?_, fun l' hl => rfl, fun l' hl => rfl, fun l' hl => ?_, fun i o hi => rfl⟩
    · show u1 S.ic (L l + 5) _ o = S.ic o
      simp [u1, ho]
    · funext k
      show uh S.hc l n _ l' k = S.hc l' k
      simp [uh, hl]

theorem hrem_rep {P Q : Nat → Prop} {i x : Nat} (h : Rep w0 w S) (H : HeapAt S l f (n + 1)) (hs : SzAt S sz) (hP : Hp.Mem f (n + 1) P) (hi : i ≤ n) (hx : f i = x) (hQ : ∀ i, Q i ↔ P i ∧ i ≠ x) (hn : n < 100000) (hh : Hp.Heap sz f (n + 1)) :
    Calls Try.prog 34 #[.iface 69 (pt S.I (L l + 5)), .int .i64 i] w fun e w' => ∃ v, e = .returned v ∧ ∃ S' f', Hid (Rep w0 w' S') ∧ Hid (HeapAt S' l f' n) ∧ Hid (HFrame P l S S') ∧ Hid (Hp.Mem f' n Q) ∧ Hid (Hp.Heap sz f' n) := by
  have HR : Hid (Rep w0 w S) := h
  have HH : Hid (HeapAt S l f (n + 1)) := H
  have HS : Hid (SzAt S sz) := hs
  have HM : Hid (Hp.Mem f (n + 1) P) := hP
  have HHp : Hid (Hp.Heap sz f (n + 1)) := hh
  have HX : Hid (f i = x) := hx
  have HQ : Hid (∀ i, Q i ↔ P i ∧ i ≠ x) := hQ
  have hm1 := meth_run mLen S.I (L l + 5) _ w (hdr_at h H)
  have HC2 : Hid (Calls Try.prog 54 #[.slice (some ⟨S.G l, 0, none⟩) (n + 1) (S.cap l)] w fun e w' => e = .returned (.int .i64 ((n + 1 : Nat) : Int)) ∧ w' = w) := len_any _ _ _ _
  have HPop : Hid (∀ w1 S1 f1, Hid (Rep w0 w1 S1) → Hid (HeapAt S1 l f1 (n + 1)) → Hid (HFrame P l S S1) → Hid (Hp.Mem f1 (n + 1) P) → Hid (Hp.Heap sz f1 n) → Hid (f1 n = x) →
      Calls Try.prog 58 #[pt S.I (L l + 5)] w1 fun e w' => ∃ v, e = .returned (.iface 30 v) ∧ Hid (∃ S' f', Hid (Rep w0 w' S') ∧ Hid (HeapAt S' l f' n) ∧ Hid (HFrame P l S S') ∧ Hid (Hp.Mem f' n Q) ∧ Hid (Hp.Heap sz f' n))) := by
    intro w1 S1 f1 a b c d e g
    have hI : S1.I = S.I := by rw [c.out.same]
    rw [← hI]
    refine (spop_rep (Q := P) a.out b.out (by omega)).mono ?_
    rintro e1 w' ⟨rfl, S2, A, B, C⟩
    exact ⟨_, rfl, S2, f1, A, B, c.out.trans C.out, d.out.pop (fun i => by rw [g.out]; exact hQ i), e⟩
  clear h H hs hP hh hx hQ
  by_cases hin : i = n
  · subst hin
    have HC3 := HPop.out w S f HR HH (HFrame.refl _ _ _) HM (Hp.heap_less HHp.out (by omega)) HX
    have HC4 : Hid (Calls Try.prog 58 #[pt S.I (L l + 5)] w fun e w' => ∃ v, e = .returned (.iface 30 v) ∧ Hid (∃ S' f', Hid (Rep w0 w' S') ∧ Hid (HeapAt S' l f' i) ∧ Hid (HFrame P l S S') ∧ Hid (Hp.Mem f' i Q) ∧ Hid (Hp.Heap sz f' i))) := HC3
    clear HC3 HPop
    go_enter Try.func34, Try.ntmps34
    go_wp2_with fail
    refine HC2.out.mono ?_
    rintro e w' ⟨rfl, rfl⟩
    go_wp2_with fail
    refine HC4.out.mono ?_
    rintro e w1 ⟨v, rfl, h1⟩
    go_wp2
    go_ret
    exact ⟨_, rfl, h1.out⟩
  · have hlt : i < n := by omega
    have hne : ((n : Int) == (i : Int)) = false := by rw [beq_eq_false_iff_ne]; omega
    have hm2 := meth_run mSwap S.I (L l + 5) _ w (hdr_at HR.out HH.out)
    have HSw : Hid (∀ y : Int, y = n → Calls Try.prog 56 #[.slice (some ⟨S.G l, 0, none⟩) (n + 1) (S.cap l), .int .i64 i, .int .i64 y] w fun e w' => e = .returned (.tuple #[]) ∧ ∃ S'', Hid (Rep w0 w' S'') ∧ Hid (HeapAt S'' l (Hp.sw f i n) (n + 1)) ∧ Hid (HFrame P l S S'')) := by
      rintro y rfl
      exact swap_rep HR.out HH.out HM.out.mem (by omega) (by omega) hin
    have HDn : Hid (∀ w1 S1, Hid (Rep w0 w1 S1) → Hid (HeapAt S1 l (Hp.sw f i n) (n + 1)) → Hid (HFrame P l S S1) → ∀ y : Int, y = n →
        Calls Try.prog 36 #[.iface 69 (pt S.I (L l + 5)), .int .i64 i, .int .i64 y] w1 fun e w' => ∃ t S' f', e = .returned (.bool t) ∧ Hid (Rep w0 w' S') ∧ Hid (HeapAt S' l f' (n + 1)) ∧ Hid (HFrame P l S S') ∧ Hid (Hp.Mem f' (n + 1) P) ∧ Hid (if t then Hp.Heap sz f' n else Hp.UpI sz f' n i) ∧ Hid (f' n = x)) := by
      rintro w1 S1 a b c y rfl
      have hI : S1.I = S.I := by rw [c.out.same]
      rw [← hI]
      refine (down_rep n i a.out b.out (c.out.sz HS.out) (HM.out.sw (by omega) (by omega)) (by omega) hlt (by omega) (Hp.down_start HHp.out hlt)).mono ?_
      rintro e w' ⟨t, S2, f2, rfl, A, B, C, D, E, F⟩
      exact ⟨t, S2, f2, rfl, A, B, c.out.trans C.out, D, E, by rw [Hid, F.out n (Nat.le_refl _), Hp.sw_j]; exact HX.out⟩
    have HUp : Hid (∀ w1 S1 f1, Hid (Rep w0 w1 S1) → Hid (HeapAt S1 l f1 (n + 1)) → Hid (HFrame P l S S1) → Hid (Hp.Mem f1 (n + 1) P) → Hid (Hp.UpI sz f1 n i) → Hid (f1 n = x) →
        Calls Try.prog 25 #[.iface 69 (pt S.I (L l + 5)), .int .i64 i] w1 fun e w' => e = .returned (.tuple #[]) ∧ ∃ S' f', Hid (Rep w0 w' S') ∧ Hid (HeapAt S' l f' (n + 1)) ∧ Hid (HFrame P l S S') ∧ Hid (Hp.Mem f' (n + 1) P) ∧ Hid (Hp.Heap sz f' n) ∧ Hid (f' n = x)) := by
      rintro w1 S1 f1 a b c d u g
      have hI : S1.I = S.I := by rw [c.out.same]
      rw [← hI]
      refine (up_rep n i a.out b.out (c.out.sz HS.out) d.out (by omega) hlt (by omega) u.out).mono ?_
      rintro e w' ⟨rfl, S2, f2, A, B, C, D, E, F⟩
      exact ⟨rfl, S2, f2, A, B, c.out.trans C.out, D, E, by rw [Hid, F.out n (Nat.le_refl _)]; exact g.out⟩
    clear HM HHp HX HQ
    go_enter Try.func34, Try.ntmps34
    go_wp2_with fail
    refine HC2.out.mono ?_
    rintro e w' ⟨rfl, rfl⟩
    go_wp2_with fail
    refine (HSw.out _ (by omega)).mono ?_
    rintro e w1 ⟨rfl, S1, HR1, HH1, HF1⟩
    go_wp2_with fail
    refine (HDn.out w1 S1 HR1 HH1 HF1 _ (by omega)).mono ?_
    rintro e w2 ⟨t, S2, f2, rfl, HR2, HH2, HF2, HM2, HT2, HX2⟩
    cases t with
    | true =>
      go_wp2_with fail
      refine (HPop.out w2 S2 f2 HR2 HH2 HF2 HM2 HT2 HX2).mono ?_
      rintro e w1 ⟨v, rfl, h1⟩
      go_wp2
      go_ret
      exact ⟨_, rfl, h1.out⟩
    | false =>
      go_wp2_with fail
      refine (HUp.out w2 S2 f2 HR2 HH2 HF2 HM2 HT2 HX2).mono ?_
      rintro e w3 ⟨rfl, S3, f3, HR3, HH3, HF3, HM3, HT3, HX3⟩
      go_wp2_with fail
      refine (HPop.out w3 S3 f3 HR3 HH3 HF3 HM3 HT3 HX3).mono ?_
      rintro e w1 ⟨v, rfl, h1⟩
      go_wp2
      go_ret
      exact ⟨_, rfl, h1.out⟩
end Go.Proofs.Qxb6616981a
