/-
  The second law, walked: no lone post that fits is left, and the oldest is passed once.
-/
import Derived.Test.Qxb6616981aTurn
namespace Go.Proofs.Qxb6616981a
open Go.RowKit
set_option maxRecDepth 100000
set_option maxHeartbeats 8000000

theorem lone_walk (room lroom small held lheld : Int) (a : Option Addr) (n c : Nat) (sz : Nat → Int) (f1 f2 : Bool) (w : World) (hn : n < 4611686018427387904) (hs : Sl w a n (fun j => .int .i64 (sz j))) (hcap : a.isSome = false → c = n) :
    Calls Try.prog 4 #[.int .i64 room, .int .i64 lroom, .int .i64 small, .int .i64 held, .int .i64 lheld, .slice a n c, .bool f1, .bool f2] w fun e w' => e = .returned (.bool true) ∧ Below w.heap.size w w' := by
  have HS : Hid (Sl w a n (fun j => .int .i64 (sz j))) := hs
  have HCap : Hid (a.isSome = false → c = n) := hcap
  have C5 : Hid (∀ t, decide ((1048576 : Int) < (n : Int)) = !t → Calls Try.prog 12 #[.int .i64 room, .int .i64 lroom, .int .i64 small, .int .i64 held, .int .i64 lheld, .slice a n c, .bool f1, .bool f2] w fun e w' => e = .returned (.bool t) ∧ w' = w) := fun t ht => bytes12 _ _ _ _ _ _ _ a n c hn w t ht
  clear hs hcap
  by_cases h1 : (1048576 : Int) < (n : Int)
  · have C5' : Hid (Calls Try.prog 12 #[.int .i64 room, .int .i64 lroom, .int .i64 small, .int .i64 held, .int .i64 lheld, .slice a n c, .bool f1, .bool f2] w fun e w' => e = .returned (.bool false) ∧ w' = w) := C5.out false (by simpa using h1)
    clear C5 h1
    go_enter Try.func4, Try.ntmps4
    go_wp2_with fail
    refine C5'.out.mono ?_
    rintro e w' ⟨rfl, rfl⟩
    go_wp2
    go_ret
    exact ⟨rfl, Below.refl _ _⟩
  have C5' : Hid (Calls Try.prog 12 #[.int .i64 room, .int .i64 lroom, .int .i64 small, .int .i64 held, .int .i64 lheld, .slice a n c, .bool f1, .bool f2] w fun e w' => e = .returned (.bool true) ∧ w' = w) := C5.out true (by simpa using h1)
  clear C5 h1
  by_cases h2 : (65536 : Int) < (n : Int)
  · have d2 : decide ((65536 : Int) < (n : Int)) = true := decide_eq_true h2
    go_enter Try.func4, Try.ntmps4
    go_wp2_with fail
    refine C5'.out.mono ?_
    rintro e w' ⟨rfl, rfl⟩
    go_wp2
    go_ret
    exact ⟨rfl, Below.refl _ _⟩
  have d2 : decide ((65536 : Int) < (n : Int)) = false := decide_eq_false h2
  have hn2 : n ≤ 65536 := by omega
  have C6 : Hid (Calls Try.prog 6 #[.int .i64 room, .int .i64 lroom, .int .i64 small, .int .i64 held, .int .i64 lheld, .slice a n c] w fun e w' => ∃ t, e = .returned (.bool t) ∧ w' = w ∧ Hid (t = true → (0 ≤ room ∧ room ≤ 70368744177664 ∧ 0 ≤ lroom ∧ lroom ≤ room ∧ 0 ≤ small ∧ small ≤ 70368744177664 ∧ 0 ≤ held ∧ held ≤ room ∧ 0 ≤ lheld ∧ lheld ≤ held ∧ lheld ≤ lroom) ∧ ∀ i, i < n → 0 ≤ sz i ∧ sz i ≤ 70368744177664)) := dom_walk room lroom small held lheld a n c sz w (by omega) HS.out
  clear h2
  have hq := fun (w : World) (a : Option Addr) (n c : Nat) => run_neq_slice_nil_any (P := Try.prog) w 22 2 a n c 0 0 und22
  have hmk0 := mksz n (by omega)
  have hmkr := mkrd n (by omega)
  go_enter Try.func4, Try.ntmps4
  go_wp2_with fail
  refine C5'.out.mono ?_
  rintro e w' ⟨rfl, rfl⟩
  go_wp2_with fail
  refine C6.out.mono ?_
  rintro e w' ⟨t, rfl, rfl, HT⟩
  clear C5' C6
  cases t with
  | false =>
    go_wp2
    go_ret
    exact ⟨rfl, Below.refl _ _⟩
  | true =>
    go_upto_if 60 with fail
    go_cut [5, 17] (fun s5 _ wc => ∃ a', s5 = .slice a' n n ∧ Hid (Sl wc a' n (fun j => .int .i64 (sz j))) ∧ Hid (Below w'.heap.size w' wc))
    case first =>
      cases ha : a.isSome with
      | false =>
        go_wp2
        go_meet
        case rel => exact ⟨a, by rw [HCap.out ha], HS, Below.refl _ _⟩
      | true =>
        go_wp2_with (refine wpList_copy_moved rfl (.tmp 64) (.tmp 65) 22 22 rfl 2 und22 size2 w'.heap.size 0 n n c a rfl rfl (fun j => .int .i64 (sz j)) ?c1 ?c2 ?c3 ?c4 ?_)
        case c1 => exact (HS.out.below (alloc_bel w' _)).src
        case c2 => intro j hj; rw [Nat.zero_add, szO_cell w' n j hj]; rfl
        case c3 => intro j hj; exact szO_frozen w' n _
        case c4 => intro j hj; rfl
        intro w1 hw1
        go_wp2
        go_meet
        case rel => exact ⟨_, rfl, hw1.sl (by simp), hw1.below (alloc_bel w' _) (Nat.le_refl _)⟩
    case rest =>
      obtain ⟨a', rfl, HA, HBc⟩ := hcut
      have HF := HT.out (by first | exact trivial | rfl)
      have HDm : Hid (Dom (Prm.mk n sz small room lroom)) := by
        obtain ⟨⟨g1, g2, g3, g4, g5, g6, g7, g8, g9, g10, g11⟩, g12⟩ := HF
        exact ⟨hn2, fun i hi => (g12 i hi).1, fun i hi => (g12 i hi).2, g1, g2, g3, g4, g5, g6⟩
      have HB0 : Hid (Bd (Prm.mk n sz small room lroom) (st0 n held lheld f1 f2)) := by
        obtain ⟨⟨g1, g2, g3, g4, g5, g6, g7, g8, g9, g10, g11⟩, g12⟩ := HF
        exact ⟨g7, g8, g9, g11⟩
      obtain ⟨⟨g1, g2, g3, g4, g5, g6, g7, g8, g9, g10, g11⟩, g12⟩ := HF
      have G12 : Hid (∀ i, i < n → 0 ≤ sz i ∧ sz i ≤ 70368744177664) := g12
      clear g12 HT HS HCap hq hmk0
      have CH1 : Hid (Calls Try.prog 13 #[.slice a' n n, .int .i64 small, .bool false, .bool f1] wc fun e w' => ∃ x y : Int, e = .returned (.tuple #[.int .i64 x, .int .i64 (if f1 then x else y)]) ∧ Hid (DRs wc w') ∧ Hid (Heads sz small false n x y)) := heads_walk a' n n sz small false f1 wc (by omega) HA.out
      go_wp2_with fail
      refine CH1.out.mono ?_
      rintro e wd ⟨x1, y1, rfl, HD1, HH1⟩
      obtain ⟨m1, hm1⟩ : ∃ m1, m1 = (if f1 then x1 else y1) := ⟨_, rfl⟩
      have HM1 : Hid (m1 = (if f1 then x1 else y1)) := hm1
      rw [← hm1]
      clear hm1 CH1
      have HAd : Hid (Sl wd a' n (fun j => .int .i64 (sz j))) := HA.out.drs HD1.out
      have HBd : Hid (Below w'.heap.size w' wd) := by obtain ⟨nq, e⟩ := HD1.out; rw [e]; exact below_drewN HBc.out nq
      have CH2 : Hid (Calls Try.prog 13 #[.slice a' n n, .int .i64 small, .bool true, .bool f2] wd fun e w' => ∃ x y : Int, e = .returned (.tuple #[.int .i64 x, .int .i64 (if f2 then x else y)]) ∧ Hid (DRs wd w') ∧ Hid (Heads sz small true n x y)) := heads_walk a' n n sz small true f2 wd (by omega) HAd.out
      clear HA HBc HD1
      go_wp2_with fail
      refine CH2.out.mono ?_
      rintro e we ⟨x2, y2, rfl, HD2, HH2⟩
      obtain ⟨m2, hm2⟩ : ∃ m2, m2 = (if f2 then x2 else y2) := ⟨_, rfl⟩
      have HM2 : Hid (m2 = (if f2 then x2 else y2)) := hm2
      rw [← hm2]
      clear hm2 CH2
      have HA : Hid (Sl we a' n (fun j => .int .i64 (sz j))) := HAd.out.drs HD2.out
      have HBc : Hid (Below w'.heap.size w' we) := by obtain ⟨nq, e⟩ := HD2.out; rw [e]; exact below_drewN HBd.out nq
      clear HAd HBd HD2
      have C7 : Hid (Calls Try.prog 7 #[.int .i64 room, .int .i64 lroom, .int .i64 small, .int .i64 held, .int .i64 lheld, .slice a' n n, .bool f1, .bool f2] we fun e w' => e = .returned (.tuple #[pt we.heap.size 0, .slice (some ⟨we.heap.size + 1, 0, none⟩) n n]) ∧ ∃ S, Hid (PInv we w' S (Prm.mk n sz small room lroom) (st0 n held lheld f1 f2) we.heap.size (we.heap.size + 1))) :=
        top_make (Prm.mk n sz small room lroom) (st0 n held lheld f1 f2) HDm.out (fun i => rfl) a' n we HA.out
      go_wp2_with fail
      refine C7.out.mono ?_
      rintro e w3 ⟨rfl, S3, HP3⟩
      have C9 : Hid (Calls Try.prog 9 #[pt we.heap.size 0] w3 fun e w' => e = .returned (.tuple #[]) ∧ ∃ S' st', Hid (PInv we w' S' (Prm.mk n sz small room lroom) st' we.heap.size (we.heap.size + 1)) ∧ Hid (Steps (Prm.mk n sz small room lroom) (st0 n held lheld f1 f2) st') ∧ Hid (Pick (Prm.mk n sz small room lroom) st' none) ∧ Hid (Bd (Prm.mk n sz small room lroom) st')) :=
        (top_letin HDm.out HB0.out HP3.out).mono fun e w' ⟨a, S', st', b, c, d, e, _⟩ => ⟨a, S', st', b, c, d, e⟩
      clear C7 HP3
      go_wp2_with fail
      refine C9.out.mono ?_
      rintro e w4 ⟨rfl, S4, st4, HP4, HSt, HPk, HB4⟩
      clear C9
      have HKp : Hid (Kept (Prm.mk n sz small room lroom) (st0 n held lheld f1 f2) st4) := kept_steps (fun i => rfl) g8 g11 HSt.out
      have HF1 := heads_facts (pr := (Prm.mk n sz small room lroom)) (s0 := st0 n held lheld f1 f2) (st := st4) (l := false) (fun i => rfl) HKp.out HH1.out
      have HF2 := heads_facts (pr := (Prm.mk n sz small room lroom)) (s0 := st0 n held lheld f1 f2) (st := st4) (l := true) (fun i => rfl) HKp.out HH2.out
      have KF1 : Hid ((cnt (goneP (Prm.mk n sz small room lroom) st4 false) n = 0 ∨ ∃ m : Nat, m < n ∧ m1 = m ∧ st4.wt m = false) ∧ (x1 = -1 ∨ ∃ f : Nat, f < n ∧ x1 = f ∧ (st4.wt f = false ∨ (st4.wt f = true ∧ (cnt (goneP (Prm.mk n sz small room lroom) st4 false) n = 0 ∨ (cnt (goneP (Prm.mk n sz small room lroom) st4 false) n = 1 ∧ f1 = false)))))) := by rw [HM1.out]; exact HF1
      have KF2 : Hid ((cnt (goneP (Prm.mk n sz small room lroom) st4 true) n = 0 ∨ ∃ m : Nat, m < n ∧ m2 = m ∧ st4.wt m = false) ∧ (x2 = -1 ∨ ∃ f : Nat, f < n ∧ x2 = f ∧ (st4.wt f = false ∨ (st4.wt f = true ∧ (cnt (goneP (Prm.mk n sz small room lroom) st4 true) n = 0 ∨ (cnt (goneP (Prm.mk n sz small room lroom) st4 true) n = 1 ∧ f2 = false)))))) := by rw [HM2.out]; exact HF2
      clear HF1 HF2 HM1 HM2 HH1 HH2
      obtain ⟨hv, hhv⟩ : ∃ hv, st4.held = hv := ⟨_, rfl⟩
      obtain ⟨lv, hlv⟩ : ∃ lv, st4.lheld = lv := ⟨_, rfl⟩
      have C10 : Hid (Calls Try.prog 10 #[pt we.heap.size 0] w4 fun e w' => e = .returned (.tuple #[.int .i64 hv, .int .i64 lv]) ∧ Hid (DR w4 w')) := by
        have := top_held HP4.out; rw [hhv, hlv] at this; exact this
      have v0 : 0 ≤ hv := by rw [← hhv]; exact HB4.out.h0
      have v1 : hv ≤ room := by rw [← hhv]; exact HB4.out.h1
      have v2 : 0 ≤ lv := by rw [← hlv]; exact HB4.out.l0
      have v3 : lv ≤ lroom := by rw [← hlv]; exact HB4.out.l1
      have HHV : Hid (st4.held = hv ∧ st4.lheld = lv) := ⟨hhv, hlv⟩
      clear hhv hlv HSt HKp HB0 HB4
      go_wp2_with fail
      refine C10.out.mono ?_
      rintro e w5 ⟨rfl, HD5⟩
      have HP5 : Hid (PInv we w5 S4 (Prm.mk n sz small room lroom) st4 we.heap.size (we.heap.size + 1)) := HP4.out.dr HD5
      have HA5 : Hid (Sl w5 a' n (fun j => .int .i64 (sz j))) := HA.out.below HP5.out.inv.rep.bel
      have HBs : Hid (Bv (w5.alloc (rdO n)) w5.heap.size 0 n (fun j => .bool (!st4.wt j))) := Bv.start _ _ _
      clear C10 HP4 HD5
      go_wp2
      go_loopg [27, 28, 29] n (fun q s27 s28 s29 wr => ∃ (j c1 c2 : Nat), j ≤ n ∧ q = n - j ∧ s27 = .int .i64 c1 ∧ s28 = .int .i64 c2 ∧ s29 = .int .i64 j
        ∧ Hid (c1 = cnt (goneP (Prm.mk n sz small room lroom) st4 false) j) ∧ Hid (c2 = cnt (goneP (Prm.mk n sz small room lroom) st4 true) j) ∧ Hid (Bv wr w5.heap.size j n (fun j => .bool (!st4.wt j))) ∧ Hid (Below w5.heap.size w5 wr))
      case atStart => exact ⟨0, 0, 0, by omega, rfl, rfl, rfl, rfl, rfl, rfl, HBs, alloc_bel _ _⟩
      case round =>
        obtain ⟨j, c1, c2, hj, rfl, rfl, rfl, rfl, X1, X2, HBv, HBw⟩ := hrel
        have q1 : c1 ≤ j := by rw [X1.out]; exact cnt_le
        have q2 : c2 ≤ j := by rw [X2.out]; exact cnt_le
        by_cases hlt : j < n
        · as_aux_lemma =>
            have hdn : decide ((j : Int) < (n : Int)) = true := by rw [decide_eq_true_eq]; omega
            have HPr : Hid (PInv we wr S4 (Prm.mk n sz small room lroom) st4 we.heap.size (we.heap.size + 1)) := HP5.out.below HBw.out
            have cws : wr.cell? ⟨we.heap.size + 1, j, none⟩ = some (pt (S4.W j) 0) := HPr.out.ws hlt
            have CR : Hid (Calls Try.prog 8 #[pt (S4.W j) 0] wr fun e w' => e = .returned (.bool (!st4.wt j)) ∧ w' = wr) := HPr.out.ready (i := j) hlt
            obtain ⟨u, cu⟩ := HBv.out.room j hlt
            have fu := HBv.out.frozen j
            obtain ⟨b, o, rfl, hlb, hc⟩ := HA5.out (by omega)
            have hbe : ¬ b = w5.heap.size := by omega
            have cz : wr.cell? ⟨b, o + j, none⟩ = some (.int .i64 (sz j)) := (HBw.out.cell (p := ⟨b, o + j, none⟩) hlb).trans (hc j hlt)
            clear hc
            have HBv2 : Hid (Bv (wr.setCell ⟨w5.heap.size, j, none⟩ (.bool (!st4.wt j))) w5.heap.size (j + 1) n (fun j => .bool (!st4.wt j))) := HBv.out.put hlt
            have HBw2 : Hid (Below w5.heap.size w5 (wr.setCell ⟨w5.heap.size, j, none⟩ (.bool (!st4.wt j)))) := HBw.out.setCell (Nat.le_refl _) _
            have Y1 : Hid (cnt (goneP (Prm.mk n sz small room lroom) st4 false) (j + 1) = c1 + if !st4.wt j && (decide (small < sz j) == false) then 1 else 0) := by rw [X1.out]; rfl
            have Y2 : Hid (cnt (goneP (Prm.mk n sz small room lroom) st4 true) (j + 1) = c2 + if !st4.wt j && (decide (small < sz j) == true) then 1 else 0) := by rw [X2.out]; rfl
            obtain ⟨wt, hwt⟩ : ∃ wt, st4.wt j = wt := ⟨_, rfl⟩
            obtain ⟨kd, hkd⟩ : ∃ kd, decide (small < sz j) = kd := ⟨_, rfl⟩
            rw [hwt] at CR HBv2 HBw2 Y1 Y2
            rw [hkd] at Y1 Y2
            clear hwt HBv HBw X1 X2
            cases wt with
            | false =>
              cases kd with
              | false =>
                simp only [Bool.not_false] at CR HBv2 HBw2
                have Z1 : Hid (cnt (goneP (Prm.mk n sz small room lroom) st4 false) (j + 1) = c1 + 1) := Y1
                have Z2 : Hid (cnt (goneP (Prm.mk n sz small room lroom) st4 true) (j + 1) = c2) := Y2
                clear Y1 Y2
                go_wp2_with fail
                refine CR.out.mono ?_
                rintro e wx ⟨rfl, rfl⟩
                go_wp2
                go_roundg (n - (j + 1))
                case measure => omega
                case rel => exact ⟨j + 1, c1 + 1, c2, by omega, rfl, by go_num, rfl, by go_num, Z1.out.symm, Z2.out.symm, HBv2, HBw2⟩
              | true =>
                simp only [Bool.not_false] at CR HBv2 HBw2
                have Z1 : Hid (cnt (goneP (Prm.mk n sz small room lroom) st4 false) (j + 1) = c1) := Y1
                have Z2 : Hid (cnt (goneP (Prm.mk n sz small room lroom) st4 true) (j + 1) = c2 + 1) := Y2
                clear Y1 Y2
                go_wp2_with fail
                refine CR.out.mono ?_
                rintro e wx ⟨rfl, rfl⟩
                go_wp2
                go_roundg (n - (j + 1))
                case measure => omega
                case rel => exact ⟨j + 1, c1, c2 + 1, by omega, rfl, rfl, by go_num, by go_num, Z1.out.symm, Z2.out.symm, HBv2, HBw2⟩
            | true =>
              simp only [Bool.not_true] at CR HBv2 HBw2
              have Z1 : Hid (cnt (goneP (Prm.mk n sz small room lroom) st4 false) (j + 1) = c1) := Y1
              have Z2 : Hid (cnt (goneP (Prm.mk n sz small room lroom) st4 true) (j + 1) = c2) := Y2
              clear Y1 Y2
              go_wp2_with fail
              refine CR.out.mono ?_
              rintro e wx ⟨rfl, rfl⟩
              go_wp2
              go_roundg (n - (j + 1))
              case measure => omega
              case rel => exact ⟨j + 1, c1, c2, by omega, rfl, rfl, rfl, by go_num, Z1.out.symm, Z2.out.symm, HBv2, HBw2⟩
        · obtain rfl : j = n := by omega
          have HPr : Hid (PInv we wr S4 (Prm.mk j sz small room lroom) st4 we.heap.size (we.heap.size + 1)) := HP5.out.below HBw.out
          have CB : Hid (∀ i, i < j → wr.cell? ⟨w5.heap.size, i, none⟩ = some (.bool (!st4.wt i))) := HBv.out.part
          have HAr : Hid (Sl wr a' j (fun i => .int .i64 (sz i))) := HA5.out.below HBw.out
          rw [← X1.out] at KF1
          rw [← X2.out] at KF2
          clear X1 X2 HBv HBw HP5 HA5 HBs HA hmkr
          have hj2 : j ≤ 65536 := hn2
          have CZ : Hid (∀ (l : Bool) w9, Hid (Below wr.heap.size wr w9) → Calls Try.prog 14 #[pt we.heap.size 0, .bool l] w9 fun e w' => ∃ (O : List Nat) (a : Option Addr) (c : Nat), e = .returned (.tuple #[.slice a O.length c, .int .i64 O.length, .bool (st4.fl l)]) ∧ Hid (Enum O (P (Prm.mk j sz small room lroom) st4 l) j) ∧ Hid (Sl w' a O.length (fun j => .int .u64 (O.getD j 0))) ∧ Hid (Below wr.heap.size wr w') ∧ Hid (Below w9.heap.size w9 w')) := fun l w9 hb => by
            have := zlane_walk (l := l) HDm.out (HPr.out.below hb).inv
            rw [HPr.out.I] at this
            exact this.mono fun e w' ⟨O, a, c, h1, h2, h3, h4⟩ => ⟨O, a, c, h1, h2, h3, hb.out.trans (h4.out.mono hb.out.size), h4⟩
          have HEnd : Hid (∀ wz, Hid (Below wr.heap.size wr wz) → Below w'.heap.size w' wz) := fun wz hb => HBc.out.trans ((HPr.out.below hb).inv.rep.bel.mono HBc.out.size)
          have HPl : Hid (∀ l i, P (Prm.mk j sz small room lroom) st4 l i = true → i < j) := fun l i hi => inv_lt HPr.out.inv hi
          clear HBc HPr
          go_upto_region 29 with fail
          go_cut [149] (fun sx wx => sx = .bool false ∧ wr = wx)
          case first =>
            as_aux_lemma =>
              rcases KF1.out.1 with h0 | ⟨mm, hmn, rfl, hwm⟩
              · have d0 : decide ((0 : Int) < (c1 : Int)) = false := by rw [decide_eq_false_iff_not]; omega
                have d0' : decide (0 < c1) = false := by rw [decide_eq_false_iff_not]; omega
                clear h0
                go_wp2
                go_meet
                case rel => exact ⟨rfl, rfl⟩
              · have cr := CB.out mm hmn
                rw [hwm] at cr
                simp only [Bool.not_false] at cr
                clear hwm
                by_cases h0 : 0 < c1
                · have d0 : decide ((0 : Int) < (c1 : Int)) = true := by rw [decide_eq_true_eq]; omega
                  have d0' : decide (0 < c1) = true := by rw [decide_eq_true_eq]; omega
                  have d1 : decide ((mm : Int) < 0) = false := by rw [decide_eq_false_iff_not]; omega
                  clear h0
                  go_wp2
                  go_meet
                  case rel => exact ⟨rfl, rfl⟩
                · have d0 : decide ((0 : Int) < (c1 : Int)) = false := by rw [decide_eq_false_iff_not]; omega
                  have d0' : decide (0 < c1) = false := by rw [decide_eq_false_iff_not]; omega
                  clear h0
                  go_wp2
                  go_meet
                  case rel => exact ⟨rfl, rfl⟩
          obtain ⟨rfl, rfl⟩ := hcut
          go_upto_region 31 with fail
          go_cut [162] (fun sx wx => sx = .bool false ∧ wr = wx)
          case first =>
            as_aux_lemma =>
              rcases KF2.out.1 with h0 | ⟨mm, hmn, rfl, hwm⟩
              · have d0 : decide ((0 : Int) < (c2 : Int)) = false := by rw [decide_eq_false_iff_not]; omega
                have d0' : decide (0 < c2) = false := by rw [decide_eq_false_iff_not]; omega
                clear h0
                go_wp2
                go_meet
                case rel => exact ⟨rfl, rfl⟩
              · have cr := CB.out mm hmn
                rw [hwm] at cr
                simp only [Bool.not_false] at cr
                clear hwm
                by_cases h0 : 0 < c2
                · have d0 : decide ((0 : Int) < (c2 : Int)) = true := by rw [decide_eq_true_eq]; omega
                  have d0' : decide (0 < c2) = true := by rw [decide_eq_true_eq]; omega
                  have d1 : decide ((mm : Int) < 0) = false := by rw [decide_eq_false_iff_not]; omega
                  clear h0
                  go_wp2
                  go_meet
                  case rel => exact ⟨rfl, rfl⟩
                · have d0 : decide ((0 : Int) < (c2 : Int)) = false := by rw [decide_eq_false_iff_not]; omega
                  have d0' : decide (0 < c2) = false := by rw [decide_eq_false_iff_not]; omega
                  clear h0
                  go_wp2
                  go_meet
                  case rel => exact ⟨rfl, rfl⟩
          obtain ⟨rfl, rfl⟩ := hcut
          go_upto_region 33 with fail
          go_cut [182, 6] (fun sx sf wx => sx = .bool false ∧ sf = .bool f1 ∧ wr = wx)
          case first =>
            as_aux_lemma =>
              rcases KF1.out.2 with rfl | ⟨ff, hfn, rfl, hor⟩
              · go_wp2
                go_meet
                case rel => exact ⟨rfl, rfl, rfl⟩
              · have cr := CB.out ff hfn
                have d1 : decide ((0 : Int) ≤ (ff : Int)) = true := by rw [decide_eq_true_eq]; omega
                rcases hor with hwf | ⟨hwf, hc⟩
                · rw [hwf] at cr
                  simp only [Bool.not_false] at cr
                  clear hwf
                  go_wp2
                  go_meet
                  case rel => exact ⟨rfl, rfl, rfl⟩
                · rw [hwf] at cr
                  simp only [Bool.not_true] at cr
                  have d2 : decide ((1 : Int) < (c1 : Int)) = false := by rw [decide_eq_false_iff_not]; omega
                  have d2' : decide (1 < c1) = false := by rw [decide_eq_false_iff_not]; omega
                  by_cases h0 : c1 = 0
                  · have d3 : decide ((0 : Int) < (c1 : Int)) = false := by rw [decide_eq_false_iff_not]; omega
                    have d3' : decide (0 < c1) = false := by rw [decide_eq_false_iff_not]; omega
                    clear hwf hc h0
                    rcases Bool.eq_false_or_eq_true f1 with hf | hf
                    · go_wp2
                      go_meet
                      case rel => exact ⟨rfl, by rw [hf], rfl⟩
                    · go_wp2
                      go_meet
                      case rel => exact ⟨rfl, by rw [hf], rfl⟩
                  · have hf : f1 = false := by
                      rcases hc with h | ⟨_, h⟩
                      · exact absurd h h0
                      · exact h
                    clear hwf hc h0
                    go_wp2
                    go_meet
                    case rel => exact ⟨rfl, by rw [hf], rfl⟩
          obtain ⟨rfl, rfl, rfl⟩ := hcut
          go_upto_region 35 with fail
          go_cut [202, 7] (fun sx sf wx => sx = .bool false ∧ sf = .bool f2 ∧ wr = wx)
          case first =>
            as_aux_lemma =>
              rcases KF2.out.2 with rfl | ⟨ff, hfn, rfl, hor⟩
              · go_wp2
                go_meet
                case rel => exact ⟨rfl, rfl, rfl⟩
              · have cr := CB.out ff hfn
                have d1 : decide ((0 : Int) ≤ (ff : Int)) = true := by rw [decide_eq_true_eq]; omega
                rcases hor with hwf | ⟨hwf, hc⟩
                · rw [hwf] at cr
                  simp only [Bool.not_false] at cr
                  clear hwf
                  go_wp2
                  go_meet
                  case rel => exact ⟨rfl, rfl, rfl⟩
                · rw [hwf] at cr
                  simp only [Bool.not_true] at cr
                  have d2 : decide ((1 : Int) < (c2 : Int)) = false := by rw [decide_eq_false_iff_not]; omega
                  have d2' : decide (1 < c2) = false := by rw [decide_eq_false_iff_not]; omega
                  by_cases h0 : c2 = 0
                  · have d3 : decide ((0 : Int) < (c2 : Int)) = false := by rw [decide_eq_false_iff_not]; omega
                    have d3' : decide (0 < c2) = false := by rw [decide_eq_false_iff_not]; omega
                    clear hwf hc h0
                    rcases Bool.eq_false_or_eq_true f2 with hf | hf
                    · go_wp2
                      go_meet
                      case rel => exact ⟨rfl, by rw [hf], rfl⟩
                    · go_wp2
                      go_meet
                      case rel => exact ⟨rfl, by rw [hf], rfl⟩
                  · have hf : f2 = false := by
                      rcases hc with h | ⟨_, h⟩
                      · exact absurd h h0
                      · exact h
                    clear hwf hc h0
                    go_wp2
                    go_meet
                    case rel => exact ⟨rfl, by rw [hf], rfl⟩
          obtain ⟨rfl, rfl, rfl⟩ := hcut
          go_wp2_with fail
          refine (CZ.out false wr (Below.refl _ _)).mono ?_
          rintro e w9 ⟨O1, b1, k1, rfl, HE1, HS1, HB9, _⟩
          go_wp2_with fail
          refine (CZ.out true w9 HB9).mono ?_
          rintro e w10 ⟨O2, b2, k2, rfl, HE2, HS2, HB10, HB910⟩
          have HS1' : Hid (Sl w10 b1 O1.length (fun j => .int .u64 (O1.getD j 0))) := HS1.out.below HB910.out
          have HA10 : Hid (Sl w10 a' j (fun i => .int .i64 (sz i))) := HAr.out.below HB10.out
          have l1 : O1.length ≤ j := by rw [HE1.out.len]; exact cnt_le
          have l2 : O2.length ≤ j := by rw [HE2.out.len]; exact cnt_le
          have V1 : Hid (Calls Try.prog 15 #[.slice b1 O1.length k1, .int .i64 j] w10 fun e w' => e = .returned (.bool true) ∧ w' = w10) := seqs_valid b1 O1.length k1 j (fun i => O1.getD i 0) w10 (by omega) (by omega) HS1'.out (fun i hi => (HE1.out.mem i hi).2.1)
          have V2 : Hid (Calls Try.prog 15 #[.slice b2 O2.length k2, .int .i64 j] w10 fun e w' => e = .returned (.bool true) ∧ w' = w10) := seqs_valid b2 O2.length k2 j (fun i => O2.getD i 0) w10 (by omega) (by omega) HS2.out (fun i hi => (HE2.out.mem i hi).2.1)
          obtain ⟨fs, hfs⟩ : ∃ fs, fs = st4.fl false := ⟨_, rfl⟩
          obtain ⟨fl, hfl⟩ : ∃ fl, fl = st4.fl true := ⟨_, rfl⟩
          have HFS : Hid (fs = st4.fl false) := hfs
          have HFL : Hid (fl = st4.fl true) := hfl
          rw [← hfs, ← hfl]
          clear hfs hfl CZ CB HS1 HB910 KF1 KF2 HAr
          go_wp2_with fail
          refine V1.out.mono ?_
          rintro e wx ⟨rfl, rfl⟩
          go_wp2_with fail
          refine V2.out.mono ?_
          rintro e wx ⟨rfl, rfl⟩
          clear V1 V2
          obtain ⟨n1, hn1⟩ : ∃ n1, n1 = O1.length := ⟨_, rfl⟩
          obtain ⟨n2, hn2'⟩ : ∃ n2, n2 = O2.length := ⟨_, rfl⟩
          have HN1 : Hid (n1 = O1.length) := hn1
          have HN2 : Hid (n2 = O2.length) := hn2'
          rw [← hn1, ← hn2']
          rw [← hn1] at l1 HS1'
          rw [← hn2'] at l2 HS2
          clear hn1 hn2'
          by_cases z2 : n2 = 0
          · by_cases z1 : n1 = 0
            · as_aux_lemma =>
                have e1 : ((n2 : Int) == 0) = true := by rw [beq_iff_eq]; omega
                have e1' : (n2 == 0) = true := by rw [beq_iff_eq]; omega
                have e2 : decide ((0 : Int) < (n1 : Int)) = false := by rw [decide_eq_false_iff_not]; omega
                have e2' : decide (0 < n1) = false := by rw [decide_eq_false_iff_not]; omega
                have e3 : ((n1 : Int) == 0) = true := by rw [beq_iff_eq]; omega
                have e3' : (n1 == 0) = true := by rw [beq_iff_eq]; omega
                have e4 : decide ((0 : Int) < (n2 : Int)) = false := by rw [decide_eq_false_iff_not]; omega
                have e4' : decide (0 < n2) = false := by rw [decide_eq_false_iff_not]; omega
                clear z1 z2
                go_wp2
                go_ret
                exact ⟨rfl, HEnd.out _ HB10⟩
            · as_aux_lemma =>
                have e1 : ((n2 : Int) == 0) = true := by rw [beq_iff_eq]; omega
                have e1' : (n2 == 0) = true := by rw [beq_iff_eq]; omega
                have e2 : decide ((0 : Int) < (n1 : Int)) = true := by rw [decide_eq_true_eq]; omega
                have e2' : decide (0 < n1) = true := by rw [decide_eq_true_eq]; omega
                have e3 : ((n1 : Int) == 0) = false := by rw [beq_eq_false_iff_ne]; omega
                have e3' : (n1 == 0) = false := by rw [beq_eq_false_iff_ne]; omega
                have CN : Hid (Calls Try.prog 16 #[.slice b1 n1 k1, .slice a' j j, .bool fs] wx fun e w' => ∃ i, e = .returned (.int .i64 (O1.getD i 0)) ∧ i < n1 ∧ Hid (DRs wx w') ∧ Hid (if fs then i = 0 else ∀ k, k < n1 → ¬ Hp.lt sz (O1.getD k 0) (O1.getD i 0))) :=
                  next_walk b1 a' n1 k1 j j (fun i => O1.getD i 0) sz fs wx (by omega) (by omega) (by omega) HS1'.out HA10.out (fun i hi => (HE1.out.mem i (by rw [← HN1.out]; exact hi)).2.1)
                have HLone : Hid (∀ i, i < n1 → Hid (if fs then i = 0 else ∀ k, k < n1 → ¬ Hp.lt sz (O1.getD k 0) (O1.getD i 0)) → ¬ hv + sz (O1.getD i 0) ≤ room) := fun i hi hx => by
                  have hnx : IsNext (Prm.mk j sz small room lroom) st4 false (O1.getD i 0) := enum_next HE1.out (HPl.out false) (by rw [← HN1.out]; exact hi) (by rw [← HFS.out, ← HN1.out]; exact hx)
                  have := lone_small HPk.out (enum_none HE2.out (by rw [← HN2.out]; exact z2) (HPl.out true)) hnx
                  rw [HHV.out.1] at this; exact this
                have HLt : Hid (∀ i, i < n1 → O1.getD i 0 < j) := fun i hi => (HE1.out.mem i (by rw [← HN1.out]; exact hi)).2.1
                clear z1 z2 HE1 HE2 HN1 HN2 HS1' HS2
                go_wp2_with fail
                refine CN.out.mono ?_
                rintro e w11 ⟨i, rfl, hi, HD11, HX⟩
                have HB11 : Hid (Below wr.heap.size wr w11) := by obtain ⟨nq, e⟩ := HD11.out; rw [e]; exact below_drewN HB10.out nq
                obtain ⟨z, hz⟩ : ∃ z, z = O1.getD i 0 := ⟨_, rfl⟩
                have hzj : z < j := by rw [hz]; exact HLt.out i hi
                have hno : ¬ hv + sz z ≤ room := by rw [hz]; have := HLone.out i hi HX; omega
                have dno : decide (hv + sz z ≤ room) = false := decide_eq_false hno
                obtain ⟨u0, u1⟩ := G12.out z hzj
                obtain ⟨bb, oo, rfl, hlb, hc⟩ := (HA10.out.drs HD11.out) (by omega)
                have cz := hc z hzj
                rw [← hz]
                clear hc hz hno CN HLone HLt HX
                simp only [] at cz
                go_wp2
                go_ret
                exact ⟨rfl, HEnd.out _ HB11⟩
          · by_cases z1 : n1 = 0
            · as_aux_lemma =>
                have e1 : ((n2 : Int) == 0) = false := by rw [beq_eq_false_iff_ne]; omega
                have e1' : (n2 == 0) = false := by rw [beq_eq_false_iff_ne]; omega
                have e3 : ((n1 : Int) == 0) = true := by rw [beq_iff_eq]; omega
                have e3' : (n1 == 0) = true := by rw [beq_iff_eq]; omega
                have e4 : decide ((0 : Int) < (n2 : Int)) = true := by rw [decide_eq_true_eq]; omega
                have e4' : decide (0 < n2) = true := by rw [decide_eq_true_eq]; omega
                have CN : Hid (Calls Try.prog 16 #[.slice b2 n2 k2, .slice a' j j, .bool fl] wx fun e w' => ∃ i, e = .returned (.int .i64 (O2.getD i 0)) ∧ i < n2 ∧ Hid (DRs wx w') ∧ Hid (if fl then i = 0 else ∀ k, k < n2 → ¬ Hp.lt sz (O2.getD k 0) (O2.getD i 0))) :=
                  next_walk b2 a' n2 k2 j j (fun i => O2.getD i 0) sz fl wx (by omega) (by omega) (by omega) HS2.out HA10.out (fun i hi => (HE2.out.mem i (by rw [← HN2.out]; exact hi)).2.1)
                have HLone : Hid (∀ i, i < n2 → Hid (if fl then i = 0 else ∀ k, k < n2 → ¬ Hp.lt sz (O2.getD k 0) (O2.getD i 0)) → ¬ (hv + sz (O2.getD i 0) ≤ room ∧ lv + sz (O2.getD i 0) ≤ lroom)) := fun i hi hx => by
                  have hnx : IsNext (Prm.mk j sz small room lroom) st4 true (O2.getD i 0) := enum_next HE2.out (HPl.out true) (by rw [← HN2.out]; exact hi) (by rw [← HFL.out, ← HN2.out]; exact hx)
                  have := lone_large HPk.out (enum_none HE1.out (by rw [← HN1.out]; exact z1) (HPl.out false)) hnx
                  rw [HHV.out.1, HHV.out.2] at this; exact this
                have HLt : Hid (∀ i, i < n2 → O2.getD i 0 < j) := fun i hi => (HE2.out.mem i (by rw [← HN2.out]; exact hi)).2.1
                clear z1 z2 HE1 HE2 HN1 HN2 HS1' HS2
                go_wp2_with fail
                refine CN.out.mono ?_
                rintro e w11 ⟨i, rfl, hi, HD11, HX⟩
                have HB11 : Hid (Below wr.heap.size wr w11) := by obtain ⟨nq, e⟩ := HD11.out; rw [e]; exact below_drewN HB10.out nq
                obtain ⟨z, hz⟩ : ∃ z, z = O2.getD i 0 := ⟨_, rfl⟩
                have hzj : z < j := by rw [hz]; exact HLt.out i hi
                have hno : ¬ (hv + sz z ≤ room ∧ lv + sz z ≤ lroom) := by rw [hz]; have := HLone.out i hi HX; omega
                have HNo : Hid (¬ (hv + sz z ≤ room ∧ lv + sz z ≤ lroom)) := hno
                obtain ⟨u0, u1⟩ := G12.out z hzj
                obtain ⟨bb, oo, rfl, hlb, hc⟩ := (HA10.out.drs HD11.out) (by omega)
                have cz := hc z hzj
                rw [← hz]
                clear hc hz hno CN HLone HLt HX
                simp only [] at cz
                by_cases y1 : hv + sz z ≤ room
                · have t1 : decide (hv + sz z ≤ room) = true := decide_eq_true y1
                  have y2 : ¬ lv + sz z ≤ lroom := fun h => HNo.out ⟨y1, h⟩
                  have t2 : decide (lv + sz z ≤ lroom) = false := decide_eq_false y2
                  clear y1 y2
                  go_wp2
                  go_ret
                  exact ⟨rfl, HEnd.out _ HB11⟩
                · have t1 : decide (hv + sz z ≤ room) = false := decide_eq_false y1
                  clear y1
                  go_wp2
                  go_ret
                  exact ⟨rfl, HEnd.out _ HB11⟩
            · as_aux_lemma =>
                have e1 : ((n2 : Int) == 0) = false := by rw [beq_eq_false_iff_ne]; omega
                have e1' : (n2 == 0) = false := by rw [beq_eq_false_iff_ne]; omega
                have e3 : ((n1 : Int) == 0) = false := by rw [beq_eq_false_iff_ne]; omega
                have e3' : (n1 == 0) = false := by rw [beq_eq_false_iff_ne]; omega
                clear z1 z2
                go_wp2
                go_ret
                exact ⟨rfl, HEnd.out _ HB10⟩
end Go.Proofs.Qxb6616981a
