/-
  ZZnewIntake, walked.
-/
import Derived.Test.Qxb6616981aMake
namespace Go.Proofs.Qxb6616981a
open Go.RowKit
set_option maxRecDepth 100000
set_option maxHeartbeats 4000000

theorem bytes43 : ∃ i, Try.prog.info? 43 = some i ∧ i.bytes = 0 := by
  have h : (Try.prog.info? 43).map (·.bytes) = some 0 := by kernel_rfl
  obtain ⟨i, hi, hb⟩ := Option.map_eq_some_iff.1 h
  exact ⟨i, hi, hb⟩
theorem und62 : Try.prog.underlying 62 = some (.chan .both 43) := by kernel_rfl
theorem mkch (w : World) : (Instr.makeChan 62 (.int .i64 0)).run Try.prog w = .ok (.chan (some w.heap.size)) (w.alloc (.chan 0 #[] false 0 0 false)) := by
  obtain ⟨i, hi, hb⟩ := bytes43
  simpa using Go.Conc.run_makeChan (P := Try.prog) (w := w) und62 hi .i64 0 (by omega) (by rw [hb]; omega)
theorem und26 : Try.prog.underlying 26 = some (.slice 30) := by kernel_rfl
theorem mkws (n : Nat) (hn : n ≤ 70000) (w : World) : (Instr.makeSlice 26 (.int .i64 (n : Int)) (.int .i64 (n : Int))).run Try.prog w = .ok (.slice (some ⟨w.heap.size, 0, none⟩) n n) (w.alloc (.cells (madeCells #[Value.pointer none] n) 30)) := by
  obtain ⟨i0, hi, hz0, hz1, hz2⟩ := parts30
  have := run_make (P := Try.prog) w 26 30 i0 (.pointer none) und26 hi hz0 .i64 .i64 (n : Int) (n : Int) (by omega) (by omega) (by rw [hz2]; omega) (by omega)
  rw [this, hz1, Nat.mul_one, Int.toNat_natCast]
  rfl

def inArr (room lroom small held lheld : Int) (f1 f2 : Bool) : Array Value :=
  #[.int .i64 room, .int .i64 lroom, .int .i64 small, .int .i32 0, .int .u32 0, .int .i64 held, .int .i64 lheld, .pointer none, .pointer none, .pointer none, .nilIface, .int .i64 0, .slice none 0 0, .bool f1,
    .pointer none, .pointer none, .pointer none, .nilIface, .int .i64 0, .slice none 0 0, .bool f2, .int .u64 0]

theorem made_cell (w : World) (n j : Nat) (h : j < n) : (w.alloc (.cells (madeCells #[Value.pointer none] n) 30)).cell? ⟨w.heap.size, j, none⟩ = some (.pointer none) := by
  rw [World.cell?_alloc_at _ _ _ _ rfl, Array.getElem?_eq_getElem (by rw [size_madeCells]; exact h)]
  simp [madeCells, Nat.mod_one]
theorem made_frozen (w : World) (n j : Nat) : (w.alloc (.cells (madeCells #[Value.pointer none] n) 30)).frozen? ⟨w.heap.size, j, none⟩ = false := by
  rw [World.frozen?_alloc_at _ _ _ _ rfl]

/-- The start: an intake with empty lanes. -/
theorem make_start (pr : Prm) (st : A) (w : World) :
    ∃ S, BInv w ((w.alloc (.cells (inArr pr.room pr.lroom pr.small st.held st.lheld (st.fl false) (st.fl true)) 61)).alloc (.cells (madeCells #[Value.pointer none] pr.K) 30)) S pr st 0 w.heap.size (w.heap.size + 1) := by
  obtain ⟨arr, harr⟩ : ∃ arr, arr = inArr pr.room pr.lroom pr.small st.held st.lheld (st.fl false) (st.fl true) := ⟨_, rfl⟩
  rw [← harr]
  have hsz : arr.size = 22 := by rw [harr]; rfl
  have b1 : Below w.heap.size w (w.alloc (.cells arr 61)) := (Below.refl _ _).alloc (Nat.le_refl _) _
  have b2 : Below w.heap.size w ((w.alloc (.cells arr 61)).alloc (.cells (madeCells #[Value.pointer none] pr.K) 30)) := b1.alloc (by simp) _
  have b3 : Below (w.alloc (.cells arr 61)).heap.size (w.alloc (.cells arr 61)) ((w.alloc (.cells arr 61)).alloc (.cells (madeCells #[Value.pointer none] pr.K) 30)) := (Below.refl _ _).alloc (Nat.le_refl _) _
  have hs1 : (w.alloc (.cells arr 61)).heap.size = w.heap.size + 1 := by simp
  refine ⟨{ I := w.heap.size, W := fun _ => 0, E := fun _ => 0, Ch := fun _ => 0, G := fun _ => 0, nW := 0, nE := 0, cap := fun _ => 0, ic := arrAt arr, wc := fun _ _ => undef, ec := fun _ _ => undef, hc := fun _ _ => undef, shut := fun _ => false, V := w.heap.size + 1, nV := pr.K, vc := fun _ => .pointer none }, ?_⟩
  refine ⟨?_, ⟨rfl, fun i hi => absurd hi (Nat.not_lt_zero _), fun i hi => absurd hi (Nat.not_lt_zero _), fun i hi => absurd hi (Nat.not_lt_zero _), fun i hi => absurd hi (Nat.not_lt_zero _)⟩, rfl, rfl, rfl, rfl, ?_, ?_, ?_, ?_, ?_, ?_, fun i hi => absurd hi (Nat.not_lt_zero _), fun i hi => absurd hi (Nat.not_lt_zero _), fun l => ?_⟩
  · exact {
      bel := b2
      iat := fun o ho => by
        rw [b3.cell (p := ⟨w.heap.size, o, none⟩) (by simp)]
        exact arr_cell w arr 61 (by omega)
      ifr := fun o => by
        rw [b3.frozen (p := ⟨w.heap.size, o, none⟩) (by simp)]
        exact arr_frozen w arr 61
      ige := Nat.le_refl _
      wat := fun i hi => absurd hi (Nat.not_lt_zero _)
      wfr := fun i hi => absurd hi (Nat.not_lt_zero _)
      wge := fun i hi => absurd hi (Nat.not_lt_zero _)
      eat := fun i hi => absurd hi (Nat.not_lt_zero _)
      efr := fun i hi => absurd hi (Nat.not_lt_zero _)
      ege := fun i hi => absurd hi (Nat.not_lt_zero _)
      hat := fun l j hj => absurd hj (Nat.not_lt_zero _)
      hfr := fun l hl => absurd hl (Nat.lt_irrefl 0)
      hge := fun l hl => absurd hl (Nat.lt_irrefl 0)
      chan := fun i hi => absurd hi (Nat.not_lt_zero _)
      chinj := fun i j hi => absurd hi (Nat.not_lt_zero _)
      sWI := fun i hi => absurd hi (Nat.not_lt_zero _)
      sEI := fun i hi => absurd hi (Nat.not_lt_zero _)
      sWE := fun i j hi => absurd hi (Nat.not_lt_zero _)
      sWW := fun i j hi => absurd hi (Nat.not_lt_zero _)
      sEE := fun i j hi => absurd hi (Nat.not_lt_zero _)
      sGI := fun l hl => absurd hl (Nat.lt_irrefl 0)
      sGW := fun l i hl => absurd hl (Nat.lt_irrefl 0)
      sGE := fun l i hl => absurd hl (Nat.lt_irrefl 0)
      sGG := fun l l' hl => absurd hl (Nat.lt_irrefl 0)
      vat := fun j hj => by
        have := made_cell (w.alloc (.cells arr 61)) pr.K j hj
        rw [hs1] at this; exact this
      vfr := fun _ j => by
        have := made_frozen (w.alloc (.cells arr 61)) pr.K j
        rw [hs1] at this; exact this
      vge := fun _ => by show w.heap.size ≤ w.heap.size + 1; omega
      sVI := fun _ => by show w.heap.size + 1 ≠ w.heap.size; omega
      sVW := fun _ i hi => absurd hi (Nat.not_lt_zero _)
      sVE := fun _ i hi => absurd hi (Nat.not_lt_zero _)
      sVG := fun _ l hl => absurd hl (Nat.lt_irrefl 0) }
  · rw [harr]; rfl
  · rw [harr]; rfl
  · rw [harr]; rfl
  · rw [harr]; rfl
  · rw [harr]; rfl
  · rw [harr]; rfl
  · have hp : ∀ i, pk pr l 0 i = false := fun i => by unfold pk; simp
    have hno : ∀ i, pk pr l 0 i = true → False := fun i hi => by rw [hp] at hi; cases hi
    refine ⟨fun _ => 0, 0, ⟨fun i hi => (hno i hi).elim, (cnt_zero fun i _ => hp i).symm, ?_, ?_, fun _ => ⟨none, 0, ?_⟩, fun h => absurd h (Nat.lt_irrefl 0), ⟨fun j hj => absurd hj (Nat.not_lt_zero _), fun i hi => (hno i hi).elim, fun j k hj => absurd hj (Nat.not_lt_zero _)⟩, fun k _ hk => absurd hk (Nat.not_lt_zero _), fun h => absurd h (Nat.lt_irrefl 0), fun i hi => (hno i hi).elim⟩, fun _ => ⟨?_, ?_⟩⟩
    · rw [harr]; cases l <;> rfl
    · rw [harr]; cases l <;> rfl
    · rw [harr]; cases l <;> rfl
    · rw [harr]; cases l <;> rfl
    · rw [harr]; cases l <;> rfl

theorem make_walk (pr : Prm) (st : A) (hd : Dom pr) (a : Option Addr) (c : Nat) (w : World) (hs : Sl w a pr.K (fun j => .int .i64 (pr.sz j))) :
    Calls Try.prog 7 #[.int .i64 pr.room, .int .i64 pr.lroom, .int .i64 pr.small, .int .i64 st.held, .int .i64 st.lheld, .slice a pr.K c, .bool (st.fl false), .bool (st.fl true)] w fun e w' =>
      e = .returned (.tuple #[pt w.heap.size 0, .slice (some ⟨w.heap.size + 1, 0, none⟩) pr.K pr.K]) ∧ ∃ S, Hid (BInv w w' S pr st pr.K w.heap.size (w.heap.size + 1)) := by
  have HDm : Hid (Dom pr) := hd
  have hK := hd.K
  have HS : Hid (Sl w a pr.K (fun j => .int .i64 (pr.sz j))) := hs
  have HB0 : Hid (∃ S, BInv w ((w.alloc (.cells (inArr pr.room pr.lroom pr.small st.held st.lheld (st.fl false) (st.fl true)) 61)).alloc (.cells (madeCells #[Value.pointer none] pr.K) 30)) S pr st 0 w.heap.size (w.heap.size + 1)) := make_start pr st w
  have hmk := mkws pr.K (by omega)
  have hmc := mkch
  clear hs hd
  go_enter Try.func7, Try.ntmps7
  go_wp2
  go_loopg [20, 21, 22] pr.K (fun q s20 s21 s22 wr => ∃ (k : Nat) (S : St), k ≤ pr.K ∧ q = pr.K - k ∧ s20 = .int .i64 k ∧ Hid (BInv w wr S pr st k w.heap.size (w.heap.size + 1)))
  case atStart =>
    obtain ⟨S, h⟩ := HB0.out
    exact ⟨0, S, by omega, rfl, rfl, h⟩
  case round =>
    obtain ⟨k, S, hk, rfl, rfl, HB⟩ := hrel
    clear HB0 hmk
    by_cases hlt : k < pr.K
    · have hdn : decide ((k : Int) < (pr.K : Int)) = true := by rw [decide_eq_true_eq]; omega
      obtain ⟨b, o, rfl, hlb, hc⟩ := (HS.out.below HB.out.rep.bel) (by omega)
      have ck := hc k hlt
      clear hc
      have hIlt : w.heap.size < wr.heap.size := by have := HB.out.rep.ilt; rw [HB.out.I] at this; exact this
      have h21 : wr.cell? ⟨w.heap.size, 21, none⟩ = some (.int .u64 k) := by have := HB.out.rep.iat 21 (by omega); rw [HB.out.I, HB.out.c21] at this; exact this
      have f21 : wr.frozen? ⟨w.heap.size, 21, none⟩ = false := by have := HB.out.rep.ifr 21; rw [HB.out.I] at this; exact this
      go_wp2
      go_region
      obtain ⟨w1, hw1⟩ : ∃ w1, w1 = ((wr.alloc (.chan 0 #[] false 0 0 false)).alloc (.cells #[.int .i64 (pr.sz k), .int .u64 k, .chan (some wr.heap.size), .pointer none, .int .i64 0] 64)).drew := ⟨_, rfl⟩
      rw [← hw1]
      have g21 : w1.cell? ⟨w.heap.size, 21, none⟩ = some (.int .u64 k) := by
        have := (w1of_bel wr (pr.sz k) k).cell (p := ⟨w.heap.size, 21, none⟩) hIlt
        rw [hw1]; exact this.trans h21
      have gf21 : w1.frozen? ⟨w.heap.size, 21, none⟩ = false := by
        have := (w1of_bel wr (pr.sz k) k).frozen (p := ⟨w.heap.size, 21, none⟩) hIlt
        rw [hw1]; exact this.trans f21
      have gW : ∀ o, o < 5 → w1.cell? ⟨wr.heap.size + 1, o, none⟩ = some (arrAt #[.int .i64 (pr.sz k), .int .u64 k, .chan (some wr.heap.size), .pointer none, .int .i64 0] o) := fun o ho => by
        rw [hw1]; exact w1of_cell wr (pr.sz k) k ho
      have gW0 : w1.cell? ⟨wr.heap.size + 1, 0, none⟩ = some (.int .i64 (pr.sz k)) := gW 0 (by omega)
      obtain ⟨w2, hw2⟩ : ∃ w2, w2 = w1.setCell ⟨w.heap.size, 21, none⟩ (.int .u64 ((k : Int) + 1)) := ⟨_, rfl⟩
      obtain ⟨M3, M5, T1, T2, T3, T4⟩ := make_facts HDm.out HB.out hlt w1 w2 hw1 hw2
      have HW2 : Hid (w2 = w1.setCell ⟨w.heap.size, 21, none⟩ (.int .u64 ((k : Int) + 1))) := hw2
      have hIW : ¬ w.heap.size = wr.heap.size + 1 := by omega
      clear hw1 hw2 h21 f21 gW ck
      go_wp2_with fail
      rw [← HW2.out]
      refine T1.out.mono ?_
      rintro e wa ⟨rfl, rfl⟩
      go_wp2_with fail
      refine T2.out.mono ?_
      rintro e w3 ⟨rfl, HM3⟩
      obtain ⟨t3, t3f, T3c⟩ := T3.out w3 HM3
      have T3C : Hid (Calls Try.prog 19 #[.iface 69 (pt w.heap.size (L (pr.lg k) + 5)), .iface 30 (pt (wr.heap.size + 1) 0)] (w3.setCell ⟨wr.heap.size + 1, 3, none⟩ (pt (wr.heap.size + 2) 0)) fun e w' => e = .returned (.tuple #[]) ∧ Hid (M5 w')) := T3c
      clear T3c
      go_wp2_with fail
      refine T3C.out.mono ?_
      rintro e w5 ⟨rfl, HM5⟩
      obtain ⟨⟨u5, t5⟩, t5f, H6⟩ := T4.out w5 HM5
      have HB6 : Hid (∃ S6, BInv w (w5.setCell ⟨w.heap.size + 1, k, none⟩ (pt (wr.heap.size + 1) 0)) S6 pr st (k + 1) w.heap.size (w.heap.size + 1)) := H6
      clear H6
      go_wp2
      obtain ⟨S6, h6⟩ := HB6.out
      go_roundg (pr.K - (k + 1))
      case measure => omega
      case rel => exact ⟨k + 1, S6, by omega, rfl, by go_num, h6⟩
    · obtain rfl : k = pr.K := by omega
      go_wp2
      go_ret2
      exact ⟨rfl, S, HB⟩
end Go.Proofs.Qxb6616981a
