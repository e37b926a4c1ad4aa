/-
  heap.up, walked.
-/
import Derived.Test.Qxb6616981aHeap
namespace Go.Proofs.Qxb6616981a
open Go.RowKit

set_option maxRecDepth 100000
set_option maxHeartbeats 4000000

variable {w0 w : World} {S : St} {l : Bool} {f : Nat → Nat} {m : Nat} {sz : Nat → Int}

theorem tdiv_half (j : Nat) (hj : 0 < j) : Int.tdiv ((j : Int) - 1) 2 = ((j - 1) / 2 : Nat) := by
  rw [Int.tdiv_eq_ediv_of_nonneg (by omega)]; omega

theorem up_rep {Q : Nat → Prop} (n j : Nat) (h : Rep w0 w S) (H : HeapAt S l f m) (hs : SzAt S sz) (hQ : Hp.Mem f m Q) (hn : n ≤ m) (hj : j < n) (hm : m < 4611686018427387904) (hU : Hp.UpI sz f n j) :
    Calls Try.prog 25 #[.iface 69 (pt S.I (L l + 5)), .int .i64 j] w fun e w' => e = .returned (.tuple #[]) ∧ ∃ S' f', Hid (Rep w0 w' S') ∧ Hid (HeapAt S' l f' m) ∧ Hid (HFrame Q l S S') ∧ Hid (Hp.Mem f' m Q) ∧ Hid (Hp.Heap sz f' n) ∧ Hid (∀ k, n ≤ k → f' k = f k) := by
  have HR : Hid (Rep w0 w S) := h
  have HH : Hid (HeapAt S l f m) := H
  have HS : Hid (SzAt S sz) := hs
  have HQ : Hid (Hp.Mem f m Q) := hQ
  have HU : Hid (Hp.UpI sz f n j) := hU
  clear h H hs hQ hU
  go_enter Try.func25, Try.ntmps25
  go_wp2
  go_loopg [1] j (fun g s1 wr => ∃ S' f', s1 = .int .i64 g ∧ g < n ∧ Hid (Rep w0 wr S') ∧ Hid (HeapAt S' l f' m) ∧ Hid (HFrame Q l S S') ∧ Hid (Hp.Mem f' m Q) ∧ Hid (Hp.UpI sz f' n g) ∧ Hid (∀ k, n ≤ k → f' k = f k))
  case atStart => exact ⟨S, f, rfl, hj, HR, HH, HFrame.refl _ _ _, HQ, HU, fun _ _ => rfl⟩
  case round =>
    obtain ⟨S', f', rfl, hg, HR', HH', HF', HM', HU', HK'⟩ := hrel
    by_cases hg0 : gk = 0
    · subst hg0
      go_wp2
      exact bodyPost_end (v := .tuple #[]) (by simp [results, Try.results25]) rfl ⟨rfl, S', f', HR', HH', HF', HM', Hp.up_end0 HU'.out, HK'⟩
    · have htd : (((gk - 1 : Nat) : Int) / 2) = (((gk - 1) / 2 : Nat) : Int) := by omega
      obtain ⟨pp, hpp⟩ : ∃ pp, pp = (gk - 1) / 2 := ⟨_, rfl⟩
      rw [← hpp] at htd
      have hpl : pp < gk := by omega
      have hne : ((((gk - 1 : Nat) : Int) / 2) == (gk : Int)) = false := by rw [beq_eq_false_iff_ne]; omega
      obtain ⟨lv, hlv⟩ : ∃ lv, lv = lb sz (f' gk) (f' pp) := ⟨_, rfl⟩
      have hI : S'.I = S.I := by rw [HF'.out.same]
      have HC : Hid (∀ x : Int, x = pp → Calls Try.prog 55 #[.slice (some ⟨S'.G l, 0, none⟩) m (S'.cap l), .int .i64 gk, .int .i64 x] wr fun e w' => e = .returned (.bool lv) ∧ Hid (∃ nq, w' = wr.drewN nq)) := by
        rintro x rfl; rw [hlv]; exact less_rep HR'.out HH'.out (HF'.out.sz HS.out) (by omega) (by omega)
      have HC2 : Hid (∀ w2, Hid (∃ nq, w2 = wr.drewN nq) → ∀ x : Int, x = pp → Calls Try.prog 56 #[.slice (some ⟨S'.G l, 0, none⟩) m (S'.cap l), .int .i64 x, .int .i64 gk] w2 fun e w' => e = .returned (.tuple #[]) ∧ ∃ S'', Hid (Rep w0 w' S'') ∧ Hid (HeapAt S'' l (Hp.sw f' pp gk) m) ∧ Hid (HFrame Q l S' S'')) := by
        rintro w2 ⟨nq, rfl⟩ x rfl; exact swap_rep (HR'.out.drewN nq) HH'.out HM'.out.mem (by omega) (by omega) (by omega)
      have hmr := meth_run mLess S.I (L l + 5) _ wr (by have := hdr_at HR'.out HH'.out; rw [hI] at this; exact this)
      have hmr2 : Hid (∀ w2, Hid (∃ nq, w2 = wr.drewN nq) → (method 205 69 (pt S.I (L l + 5)) "Swap").run Try.prog w2 = .ok (56, .slice (some ⟨S'.G l, 0, none⟩) m (S'.cap l)) w2) := fun w2 ⟨nq, e⟩ => e ▸ meth_run mSwap S.I (L l + 5) _ _ (by have := hdr_at (HR'.out.drewN nq) HH'.out; rw [hI] at this; exact this)
      have HTD : Hid ((((gk - 1 : Nat) : Int) / 2) = (pp : Int)) := htd
      have HPP : Hid (pp = (gk - 1) / 2) := hpp
      have HLV : Hid (lb sz (f' gk) (f' pp) = lv) := hlv.symm
      clear htd hpp hlv
      cases lv with
      | false =>
        go_wp2_with fail
        refine (HC.out _ (by have := HTD.out; omega)).mono ?_
        rintro e w' ⟨rfl, HD⟩
        go_wp2
        exact bodyPost_end (v := .tuple #[]) (by simp [results, Try.results25]) rfl ⟨rfl, S', f', (by obtain ⟨nq, rfl⟩ := HD.out; exact HR'.out.drewN nq), HH', HF', HM', Hp.up_end HU'.out (by unfold Hp.ok; rw [← HPP.out]; exact lb_not.1 HLV.out), HK'⟩
      | true =>
        go_wp2_with fail
        refine (HC.out _ (by have := HTD.out; omega)).mono ?_
        rintro e w' ⟨rfl, HD⟩
        have hmr3 := hmr2.out w' HD
        go_wp2_with fail
        refine (HC2.out w' HD _ (by have := HTD.out; omega)).mono ?_
        rintro e w' ⟨rfl, S'', HR2, HH2, HF2⟩
        go_wp2
        go_roundg pp
        case measure => exact hpl
        case rel =>
          refine ⟨S'', Hp.sw f' pp gk, ?_, by omega, HR2, HH2, HF'.out.trans HF2.out, HM'.out.sw (by omega) (by omega), ?_, ?_⟩
          · have := HTD.out; congr 1; omega
          · have hu := Hp.up_step HU'.out (by omega) hg (by rw [← HPP.out]; exact lb_iff.1 HLV.out)
            rw [← HPP.out] at hu; exact hu
          · intro k hk
            rw [Hp.sw_k _ (by omega) (by omega)]; exact HK'.out k hk
end Go.Proofs.Qxb6616981a
