/-
  The first law, walked: all that fit go in and the books balance.
-/
import Derived.Test.Qxb6616981aSums
namespace Go.Proofs.Qxb6616981a
open Go.RowKit
set_option maxRecDepth 100000
set_option maxHeartbeats 8000000

theorem all_walk (room lroom small held lheld : Int) (a : Option Addr) (n c : Nat) (sz : Nat → Int) (f1 f2 : Bool) (w : World) (hn : n < 4611686018427387904) (hs : Sl w a n (fun j => .int .i64 (sz j))) (hcap : a.isSome = false → c = n) :
    Calls Try.prog 3 #[.int .i64 room, .int .i64 lroom, .int .i64 small, .int .i64 held, .int .i64 lheld, .slice a n c, .bool f1, .bool f2] w fun e w' => e = .returned (.bool true) ∧ Below w.heap.size w w' := by
  have HS : Hid (Sl w a n (fun j => .int .i64 (sz j))) := hs
  have HCap : Hid (a.isSome = false → c = n) := hcap
  have C5 : Hid (∀ t, decide ((1048576 : Int) < (n : Int)) = !t → Calls Try.prog 5 #[.int .i64 room, .int .i64 lroom, .int .i64 small, .int .i64 held, .int .i64 lheld, .slice a n c, .bool f1, .bool f2] w fun e w' => e = .returned (.bool t) ∧ w' = w) := fun t ht => bytes5 _ _ _ _ _ _ _ a n c hn w t ht
  clear hs hcap
  by_cases h1 : (1048576 : Int) < (n : Int)
  · have C5' : Hid (Calls Try.prog 5 #[.int .i64 room, .int .i64 lroom, .int .i64 small, .int .i64 held, .int .i64 lheld, .slice a n c, .bool f1, .bool f2] w fun e w' => e = .returned (.bool false) ∧ w' = w) := C5.out false (by simpa using h1)
    clear C5 h1
    go_enter Try.func3, Try.ntmps3
    go_wp2_with fail
    refine C5'.out.mono ?_
    rintro e w' ⟨rfl, rfl⟩
    go_wp2
    go_ret
    exact ⟨rfl, Below.refl _ _⟩
  have C5' : Hid (Calls Try.prog 5 #[.int .i64 room, .int .i64 lroom, .int .i64 small, .int .i64 held, .int .i64 lheld, .slice a n c, .bool f1, .bool f2] w fun e w' => e = .returned (.bool true) ∧ w' = w) := C5.out true (by simpa using h1)
  clear C5 h1
  by_cases h2 : (65536 : Int) < (n : Int)
  · have d2 : decide ((65536 : Int) < (n : Int)) = true := decide_eq_true h2
    go_enter Try.func3, Try.ntmps3
    go_wp2_with fail
    refine C5'.out.mono ?_
    rintro e w' ⟨rfl, rfl⟩
    go_wp2
    go_ret
    exact ⟨rfl, Below.refl _ _⟩
  have d2 : decide ((65536 : Int) < (n : Int)) = false := decide_eq_false h2
  have hn2 : n ≤ 65536 := by omega
  have C6 : Hid (Calls Try.prog 6 #[.int .i64 room, .int .i64 lroom, .int .i64 small, .int .i64 held, .int .i64 lheld, .slice a n c] w fun e w' => ∃ t, e = .returned (.bool t) ∧ w' = w ∧ Hid (t = true → (0 ≤ room ∧ room ≤ 70368744177664 ∧ 0 ≤ lroom ∧ lroom ≤ room ∧ 0 ≤ small ∧ small ≤ 70368744177664 ∧ 0 ≤ held ∧ held ≤ room ∧ 0 ≤ lheld ∧ lheld ≤ held ∧ lheld ≤ lroom) ∧ ∀ i, i < n → 0 ≤ sz i ∧ sz i ≤ 70368744177664)) := dom_walk room lroom small held lheld a n c sz w (by omega) HS.out
  clear h2
  have hq := fun (w : World) (a : Option Addr) (n c : Nat) => run_neq_slice_nil_any (P := Try.prog) w 22 2 a n c 0 0 und22
  have hmk0 := mksz n (by omega)
  have hmkr := mkrd n (by omega)
  go_enter Try.func3, Try.ntmps3
  go_wp2_with fail
  refine C5'.out.mono ?_
  rintro e w' ⟨rfl, rfl⟩
  go_wp2_with fail
  refine C6.out.mono ?_
  rintro e w' ⟨t, rfl, rfl, HT⟩
  clear C5' C6
  cases t with
  | false =>
    go_wp2
    go_ret
    exact ⟨rfl, Below.refl _ _⟩
  | true =>
    go_upto_if 55 with fail
    go_cut [5, 17] (fun s5 _ wc => ∃ a', s5 = .slice a' n n ∧ Hid (Sl wc a' n (fun j => .int .i64 (sz j))) ∧ Hid (Below w'.heap.size w' wc))
    case first =>
      cases ha : a.isSome with
      | false =>
        go_wp2
        go_meet
        case rel => exact ⟨a, by rw [HCap.out ha], HS, Below.refl _ _⟩
      | true =>
        go_wp2_with (refine wpList_copy_moved rfl (.tmp 59) (.tmp 60) 22 22 rfl 2 und22 size2 w'.heap.size 0 n n c a rfl rfl (fun j => .int .i64 (sz j)) ?c1 ?c2 ?c3 ?c4 ?_)
        case c1 => exact (HS.out.below (alloc_bel w' _)).src
        case c2 => intro j hj; rw [Nat.zero_add, szO_cell w' n j hj]; rfl
        case c3 => intro j hj; exact szO_frozen w' n _
        case c4 => intro j hj; rfl
        intro w1 hw1
        go_wp2
        go_meet
        case rel => exact ⟨_, rfl, hw1.sl (by simp), hw1.below (alloc_bel w' _) (Nat.le_refl _)⟩
    case rest =>
      obtain ⟨a', rfl, HA, HBc⟩ := hcut
      have HF := HT.out (by first | exact trivial | rfl)
      have HDm : Hid (Dom (Prm.mk n sz small room lroom)) := by
        obtain ⟨⟨g1, g2, g3, g4, g5, g6, g7, g8, g9, g10, g11⟩, g12⟩ := HF
        exact ⟨hn2, fun i hi => (g12 i hi).1, fun i hi => (g12 i hi).2, g1, g2, g3, g4, g5, g6⟩
      have HB0 : Hid (Bd (Prm.mk n sz small room lroom) (st0 n held lheld f1 f2)) := by
        obtain ⟨⟨g1, g2, g3, g4, g5, g6, g7, g8, g9, g10, g11⟩, g12⟩ := HF
        exact ⟨g7, g8, g9, g11⟩
      obtain ⟨⟨g1, g2, g3, g4, g5, g6, g7, g8, g9, g10, g11⟩, g12⟩ := HF
      have G12 : Hid (∀ i, i < n → 0 ≤ sz i ∧ sz i ≤ 70368744177664) := g12
      clear g12 HT HS HCap hq hmk0
      have C7 : Hid (Calls Try.prog 7 #[.int .i64 room, .int .i64 lroom, .int .i64 small, .int .i64 held, .int .i64 lheld, .slice a' n n, .bool f1, .bool f2] wc fun e w' => e = .returned (.tuple #[pt wc.heap.size 0, .slice (some ⟨wc.heap.size + 1, 0, none⟩) n n]) ∧ ∃ S, Hid (PInv wc w' S (Prm.mk n sz small room lroom) (st0 n held lheld f1 f2) wc.heap.size (wc.heap.size + 1))) :=
        top_make (Prm.mk n sz small room lroom) (st0 n held lheld f1 f2) HDm.out (fun i => rfl) a' n wc HA.out
      go_wp2_with fail
      refine C7.out.mono ?_
      rintro e w3 ⟨rfl, S3, HP3⟩
      clear C7
      go_wp2
      -- loop 1
      go_loopg [20] n (fun q s20 wr => ∃ k : Nat, k ≤ n ∧ q = n - k ∧ s20 = .int .i64 k ∧ wr = w3)
      case atStart => exact ⟨0, by omega, rfl, rfl, rfl⟩
      case round =>
        obtain ⟨k, hk, rfl, rfl, rfl⟩ := hrel
        by_cases hlt : k < n
        · have hdn : decide ((k : Int) < (n : Int)) = true := by rw [decide_eq_true_eq]; omega
          have cws : wr.cell? ⟨wc.heap.size + 1, k, none⟩ = some (pt (S3.W k) 0) := HP3.out.ws hlt
          have CR : Hid (Calls Try.prog 8 #[pt (S3.W k) 0] wr fun e w' => e = .returned (.bool false) ∧ w' = wr) := by
            have := HP3.out.ready (i := k) hlt
            have e : (!(st0 n held lheld f1 f2).wt k) = false := by simp [st0, hlt]
            rw [e] at this; exact this
          go_wp2_with fail
          refine CR.out.mono ?_
          rintro e wx ⟨rfl, rfl⟩
          go_wp2
          go_roundg (n - (k + 1))
          case measure => omega
          case rel => exact ⟨k + 1, by omega, rfl, by go_num, rfl⟩
        · obtain rfl : k = n := by omega
          have C9 : Hid (Calls Try.prog 9 #[pt wc.heap.size 0] wr fun e w' => e = .returned (.tuple #[]) ∧ ∃ S' st', Hid (PInv wc w' S' (Prm.mk k sz small room lroom) st' wc.heap.size (wc.heap.size + 1)) ∧ Hid (Steps (Prm.mk k sz small room lroom) (st0 k held lheld f1 f2) st') ∧ Hid (Pick (Prm.mk k sz small room lroom) st' none) ∧ Hid (Bd (Prm.mk k sz small room lroom) st')) :=
            (top_letin HDm.out HB0.out HP3.out).mono fun e w' ⟨a, S', st', b, c, d, e, _⟩ => ⟨a, S', st', b, c, d, e⟩
          go_wp2_with fail
          refine C9.out.mono ?_
          rintro e w4 ⟨rfl, S4, st4, HP4, HSt, HPk, HB4⟩
          clear C9
          have HKp : Hid (Kept (Prm.mk k sz small room lroom) (st0 k held lheld f1 f2) st4) := kept_steps (fun i => rfl) g8 g11 HSt.out
          -- the sums
          obtain ⟨G, hG⟩ : ∃ G, G = sm (fun i => if st4.wt i then 0 else sz i) k := ⟨_, rfl⟩
          obtain ⟨GL, hGL⟩ : ∃ GL, GL = sm (fun i => if st4.wt i then 0 else if decide (small < sz i) then sz i else 0) k := ⟨_, rfl⟩
          have e1 : st4.held = held + G := by rw [hG]; exact HKp.out.sum
          have e2 : st4.lheld = lheld + GL := by rw [hGL]; exact HKp.out.lsum
          have HG : Hid (G = sm (fun i => if st4.wt i then 0 else sz i) k) := hG
          have HGL : Hid (GL = sm (fun i => if st4.wt i then 0 else if decide (small < sz i) then sz i else 0) k) := hGL
          have C10 : Hid (Calls Try.prog 10 #[pt wc.heap.size 0] w4 fun e w' => e = .returned (.tuple #[.int .i64 (held + G), .int .i64 (lheld + GL)]) ∧ Hid (DR w4 w')) := by
            have := top_held HP4.out; rw [e1, e2] at this; exact this
          have r1 : held + G ≤ room := by rw [← e1]; exact HKp.out.le
          have r2 : lheld + GL ≤ lroom := by rw [← e2]; exact HKp.out.lle
          have r0 : 0 ≤ G := by rw [hG]; exact (sm_bound (M := 70368744177664) k (fun i hi => by have := G12.out i hi; split <;> omega)).1
          have r00 : 0 ≤ GL := by rw [hGL]; exact (sm_bound (M := 70368744177664) k (fun i hi => by have := G12.out i hi; split <;> (try split) <;> omega)).1
          have HE1 : Hid (st4.held = held + G ∧ st4.lheld = lheld + GL) := ⟨e1, e2⟩
          clear hG hGL e1 e2
          go_wp2_with fail
          refine C10.out.mono ?_
          rintro e w5 ⟨rfl, HD5⟩
          have HP5 : Hid (PInv wc w5 S4 (Prm.mk k sz small room lroom) st4 wc.heap.size (wc.heap.size + 1)) := HP4.out.dr HD5
          have HA5 : Hid (Sl w5 a' k (fun j => .int .i64 (sz j))) := HA.out.below HP5.out.inv.rep.bel
          have HBs : Hid (Bv (w5.alloc (rdO k)) w5.heap.size 0 k (fun j => .bool (!st4.wt j))) := Bv.start _ _ _
          clear C10 HP4 HD5 HP3 hlt hk
          go_wp2
          -- loop 2
          go_loopg [24, 25, 26, 27, 28] k (fun q s24 s25 s26 s27 s28 wr => ∃ (j : Nat) (x24 x25 x26 x27 : Int), j ≤ k ∧ q = k - j ∧ s24 = .int .i64 x24 ∧ s25 = .int .i64 x25 ∧ s26 = .int .i64 x26 ∧ s27 = .int .i64 x27 ∧ s28 = .int .i64 j
            ∧ Hid (x24 = sm (fun i => if st4.wt i then 0 else sz i) j) ∧ Hid (x25 = sm (fun i => if st4.wt i then 0 else if decide (small < sz i) then sz i else 0) j) ∧ Hid (x26 = sm sz j) ∧ Hid (x27 = sm (fun i => if decide (small < sz i) then sz i else 0) j)
            ∧ Hid (Bv wr w5.heap.size j k (fun j => .bool (!st4.wt j))) ∧ Hid (Below w5.heap.size w5 wr))
          case atStart => exact ⟨0, 0, 0, 0, 0, by omega, rfl, rfl, rfl, rfl, rfl, rfl, rfl, rfl, rfl, rfl, HBs, alloc_bel _ _⟩
          case round =>
            obtain ⟨j, x24, x25, x26, x27, hj, rfl, rfl, rfl, rfl, rfl, rfl, X24, X25, X26, X27, HBv, HBw⟩ := hrel
            have bnd : ∀ g : Nat → Int, (∀ i, i < j → 0 ≤ g i ∧ g i ≤ 70368744177664) → 0 ≤ sm g j ∧ sm g j ≤ j * 70368744177664 := fun g hg => sm_bound j hg
            have q24 : 0 ≤ x24 ∧ x24 ≤ j * 70368744177664 := by rw [X24.out]; exact bnd _ (fun i hi => by have := G12.out i (by omega); split <;> omega)
            have q25 : 0 ≤ x25 ∧ x25 ≤ j * 70368744177664 := by rw [X25.out]; exact bnd _ (fun i hi => by have := G12.out i (by omega); split <;> (try split) <;> omega)
            have q26 : 0 ≤ x26 ∧ x26 ≤ j * 70368744177664 := by rw [X26.out]; exact bnd _ (fun i hi => G12.out i (by omega))
            have q27 : 0 ≤ x27 ∧ x27 ≤ j * 70368744177664 := by rw [X27.out]; exact bnd _ (fun i hi => by have := G12.out i (by omega); split <;> omega)
            obtain ⟨q24a, q24b⟩ := q24
            obtain ⟨q25a, q25b⟩ := q25
            obtain ⟨q26a, q26b⟩ := q26
            obtain ⟨q27a, q27b⟩ := q27
            clear bnd
            by_cases hlt : j < k
            · have hdn : decide ((j : Int) < (k : Int)) = true := by rw [decide_eq_true_eq]; omega
              have HPr : Hid (PInv wc wr S4 (Prm.mk k sz small room lroom) st4 wc.heap.size (wc.heap.size + 1)) := HP5.out.below HBw.out
              have cws : wr.cell? ⟨wc.heap.size + 1, j, none⟩ = some (pt (S4.W j) 0) := HPr.out.ws hlt
              have CR : Hid (Calls Try.prog 8 #[pt (S4.W j) 0] wr fun e w' => e = .returned (.bool (!st4.wt j)) ∧ w' = wr) := HPr.out.ready (i := j) hlt
              obtain ⟨u, cu⟩ := HBv.out.room j hlt
              have fu := HBv.out.frozen j
              obtain ⟨b, o, rfl, hlb, hc⟩ := HA5.out (by omega)
              have hbe : ¬ b = w5.heap.size := by omega
              have cz : wr.cell? ⟨b, o + j, none⟩ = some (.int .i64 (sz j)) := (HBw.out.cell (p := ⟨b, o + j, none⟩) hlb).trans (hc j hlt)
              clear hc
              obtain ⟨z0, z1⟩ := G12.out j hlt
              have HBv2 : Hid (Bv (wr.setCell ⟨w5.heap.size, j, none⟩ (.bool (!st4.wt j))) w5.heap.size (j + 1) k (fun j => .bool (!st4.wt j))) := HBv.out.put hlt
              have HBw2 : Hid (Below w5.heap.size w5 (wr.setCell ⟨w5.heap.size, j, none⟩ (.bool (!st4.wt j)))) := HBw.out.setCell (Nat.le_refl _) _
              have Y24 : Hid (sm (fun i => if st4.wt i then 0 else sz i) (j + 1) = x24 + if st4.wt j then 0 else sz j) := by rw [X24.out]; rfl
              have Y25 : Hid (sm (fun i => if st4.wt i then 0 else if decide (small < sz i) then sz i else 0) (j + 1) = x25 + if st4.wt j then 0 else if decide (small < sz j) then sz j else 0) := by rw [X25.out]; rfl
              have Y26 : Hid (sm sz (j + 1) = x26 + sz j) := by rw [X26.out]; rfl
              have Y27 : Hid (sm (fun i => if decide (small < sz i) then sz i else 0) (j + 1) = x27 + if decide (small < sz j) then sz j else 0) := by rw [X27.out]; rfl
              obtain ⟨wt, hwt⟩ : ∃ wt, st4.wt j = wt := ⟨_, rfl⟩
              obtain ⟨kd, hkd⟩ : ∃ kd, decide (small < sz j) = kd := ⟨_, rfl⟩
              rw [hwt] at CR HBv2 HBw2 Y24 Y25
              rw [hkd] at Y25 Y27
              clear hwt HBv HBw X24 X25 X26 X27
              cases wt with
              | false =>
                simp only [Bool.not_false, Bool.false_eq_true, if_false] at CR HBv2 HBw2 Y24 Y25
                cases kd with
                | false =>
                  simp only [Bool.false_eq_true, if_false] at Y25 Y27
                  go_wp2_with fail
                  refine CR.out.mono ?_
                  rintro e wx ⟨rfl, rfl⟩
                  go_wp2
                  go_roundg (k - (j + 1))
                  case measure => omega
                  case rel => exact ⟨j + 1, _, _, _, _, by omega, rfl, rfl, rfl, rfl, rfl, by go_num, Y24.out.symm, by rw [Hid, Y25.out]; omega, Y26.out.symm, by rw [Hid, Y27.out]; omega, HBv2, HBw2⟩
                | true =>
                  simp only [if_true] at Y25 Y27
                  go_wp2_with fail
                  refine CR.out.mono ?_
                  rintro e wx ⟨rfl, rfl⟩
                  go_wp2
                  go_roundg (k - (j + 1))
                  case measure => omega
                  case rel => exact ⟨j + 1, _, _, _, _, by omega, rfl, rfl, rfl, rfl, rfl, by go_num, Y24.out.symm, Y25.out.symm, Y26.out.symm, Y27.out.symm, HBv2, HBw2⟩
              | true =>
                simp only [Bool.not_true, if_true] at CR HBv2 HBw2 Y24 Y25
                cases kd with
                | false =>
                  simp only [Bool.false_eq_true, if_false] at Y27
                  go_wp2_with fail
                  refine CR.out.mono ?_
                  rintro e wx ⟨rfl, rfl⟩
                  go_wp2
                  go_roundg (k - (j + 1))
                  case measure => omega
                  case rel => exact ⟨j + 1, _, _, _, _, by omega, rfl, rfl, rfl, rfl, rfl, by go_num, by rw [Hid, Y24.out]; omega, by rw [Hid, Y25.out]; omega, Y26.out.symm, by rw [Hid, Y27.out]; omega, HBv2, HBw2⟩
                | true =>
                  simp only [if_true] at Y27
                  go_wp2_with fail
                  refine CR.out.mono ?_
                  rintro e wx ⟨rfl, rfl⟩
                  go_wp2
                  go_roundg (k - (j + 1))
                  case measure => omega
                  case rel => exact ⟨j + 1, _, _, _, _, by omega, rfl, rfl, rfl, rfl, rfl, by go_num, by rw [Hid, Y24.out]; omega, by rw [Hid, Y25.out]; omega, Y26.out.symm, Y27.out.symm, HBv2, HBw2⟩
            · obtain rfl : j = k := by omega
              obtain rfl : x24 = G := by rw [X24.out, HG.out]
              obtain rfl : x25 = GL := by rw [X25.out, HGL.out]
              have HPr : Hid (PInv wc wr S4 (Prm.mk j sz small room lroom) st4 wc.heap.size (wc.heap.size + 1)) := HP5.out.below HBw.out
              have HSr : Hid (Sl wr (some ⟨w5.heap.size, 0, none⟩) j (fun i => .bool (!st4.wt i))) := HBv.out.sl
              have HAr : Hid (Sl wr a' j (fun i => .int .i64 (sz i))) := HA5.out.below HBw.out
              have t1 : decide (room < held + x24) = false := by rw [decide_eq_false_iff_not]; omega
              have t2 : decide (lroom < lheld + x25) = false := by rw [decide_eq_false_iff_not]; omega
              have CI1 : Hid (Calls Try.prog 11 #[pt wc.heap.size 0, .bool false, .slice a' j j, .int .i64 small, .slice (some ⟨w5.heap.size, 0, none⟩) j j] wr fun e w' => e = .returned (.bool true) ∧ Hid (Below wr.heap.size wr w')) := by
                have := is_walk (l := false) HDm.out HPr.out.inv a' (some ⟨w5.heap.size, 0, none⟩) j j HAr.out HSr.out; rw [HPr.out.I] at this; exact this
              have CI2 : Hid (∀ w9, Hid (Below wr.heap.size wr w9) → Calls Try.prog 11 #[pt wc.heap.size 0, .bool true, .slice a' j j, .int .i64 small, .slice (some ⟨w5.heap.size, 0, none⟩) j j] w9 fun e w' => e = .returned (.bool true) ∧ Hid (Below wr.heap.size wr w')) := fun w9 hb => by
                have := is_walk (l := true) HDm.out (HPr.out.below hb).inv a' (some ⟨w5.heap.size, 0, none⟩) j j (HAr.out.below hb) (HSr.out.below hb); rw [HPr.out.I] at this
                exact this.mono fun e w' ⟨h1, h2⟩ => ⟨h1, hb.out.trans (h2.out.mono hb.out.size)⟩
              have CL : Hid (∀ w10, Hid (Below wr.heap.size wr w10) → Calls Try.prog 9 #[pt wc.heap.size 0] w10 fun e w' => e = .returned (.tuple #[]) ∧ Hid (Below wr.heap.size wr w')) := fun w10 hb =>
                (top_letin HDm.out HB4.out (HPr.out.below hb)).mono fun e w' ⟨h1, S', st', _, _, _, _, h6⟩ => ⟨h1, (by obtain ⟨nq, e⟩ := (h6.out HPk.out).2; rw [e]; exact below_drewN hb.out nq)⟩
              have CH : Hid (∀ w11, Hid (Below wr.heap.size wr w11) → Calls Try.prog 10 #[pt wc.heap.size 0] w11 fun e w' => e = .returned (.tuple #[.int .i64 (held + x24), .int .i64 (lheld + x25)]) ∧ Hid (Below wr.heap.size wr w')) := fun w11 hb => by
                have := top_held (HPr.out.below hb)
                rw [HE1.out.1, HE1.out.2] at this
                exact this.mono fun e w' ⟨h1, h2⟩ => ⟨h1, (by obtain ⟨nq, e⟩ := h2.out; rw [e]; exact below_drewN hb.out nq)⟩
              have CRz : Hid (∀ wz, Hid (Below wr.heap.size wr wz) → ∀ i, i < j → wz.cell? ⟨wc.heap.size + 1, i, none⟩ = some (pt (S4.W i) 0) ∧ wz.cell? ⟨w5.heap.size, i, none⟩ = some (.bool (!st4.wt i)) ∧ ∀ nq, Calls Try.prog 8 #[pt (S4.W i) 0] (wz.drewN nq) fun e w' => e = .returned (.bool (!st4.wt i)) ∧ w' = wz.drewN nq) := fun wz hb i hi => by
                refine ⟨(HPr.out.below hb).ws hi, (hb.out.cell (p := ⟨w5.heap.size, i, none⟩) HBv.out.lt).trans (HBv.out.part i hi), fun nq => ((HPr.out.below hb).drewN nq).ready (i := i) hi⟩
              have HEnd : Hid (∀ wz, Hid (Below wr.heap.size wr wz) → Below w'.heap.size w' wz) := fun wz hb => HBc.out.trans ((HPr.out.below hb).inv.rep.bel.mono HBc.out.size)
              have hj2 : j ≤ 65536 := hn2
              have HAl : Hid (held + x26 ≤ room → lheld + x27 ≤ lroom → ∀ i, st4.wt i = false) := fun a1 a2 => all_ready HDm.out HKp.out HPk.out (by show held + sm sz j ≤ room; rw [← X26.out]; exact a1) (by show lheld + sm (fun i => if decide (small < sz i) then sz i else 0) j ≤ lroom; rw [← X27.out]; exact a2)
              have CB : Hid (∀ i, i < j → wr.cell? ⟨w5.heap.size, i, none⟩ = some (.bool (!st4.wt i))) := HBv.out.part
              clear X24 X25 X26 X27 HBv HBw HP5 HA5 HBs HG HGL HE1 HKp HSt HB4 HPk HB0 HSr HAr G12 HA
              by_cases h1 : held + x26 ≤ room
              · have d1 : decide (held + x26 ≤ room) = true := decide_eq_true h1
                by_cases h2 : lheld + x27 ≤ lroom
                · have d3 : decide (lheld + x27 ≤ lroom) = true := decide_eq_true h2
                  have HAll : Hid (∀ i, st4.wt i = false) := HAl.out h1 h2
                  clear h1 h2 HAl
                  go_wp2
                  go_loopg [29] j (fun q s29 wy => ∃ i : Nat, i ≤ j ∧ q = j - i ∧ s29 = .int .i64 i ∧ wy = wr)
                  case atStart => exact ⟨0, by omega, rfl, rfl, rfl⟩
                  case round =>
                    obtain ⟨y, hy, rfl, rfl, hwy⟩ := hrel
                    subst hwy
                    by_cases hlt : y < j
                    · have hdn : decide ((y : Int) < (j : Int)) = true := by rw [decide_eq_true_eq]; omega
                      have cr := CB.out y hlt
                      rw [HAll.out y] at cr
                      simp only [Bool.not_false] at cr
                      go_wp2
                      go_roundg (j - (y + 1))
                      case measure => omega
                      case rel => exact ⟨y + 1, by omega, rfl, by go_num, rfl⟩
                    · obtain rfl : y = j := by omega
                      clear CB HAll
                      go_wp2_with fail
                      refine CI1.out.mono ?_
                      rintro e w9 ⟨rfl, HB9⟩
                      go_wp2_with fail
                      refine (CI2.out w9 HB9).mono ?_
                      rintro e w10 ⟨rfl, HB10⟩
                      go_wp2_with fail
                      refine (CL.out w10 HB10).mono ?_
                      rintro e w11 ⟨rfl, HB11⟩
                      go_wp2_with fail
                      refine (CH.out w11 HB11).mono ?_
                      rintro e w12 ⟨rfl, HB12⟩
                      clear CI1 CI2 CL CH
                      go_wp2
                      go_loopg [32] y (fun q s32 wz => ∃ i : Nat, i ≤ y ∧ q = y - i ∧ s32 = .int .i64 i ∧ Hid (Below wr.heap.size wr wz))
                      case atStart => exact ⟨0, by omega, rfl, rfl, HB12⟩
                      case round =>
                        obtain ⟨i, hi, rfl, rfl, HBz⟩ := hrel
                        by_cases hlt : i < y
                        · have hdn : decide ((i : Int) < (y : Int)) = true := by rw [decide_eq_true_eq]; omega
                          obtain ⟨cw, cr, cc⟩ := CRz.out _ HBz i hlt
                          obtain ⟨wt, hwt⟩ : ∃ wt, st4.wt i = wt := ⟨_, rfl⟩
                          rw [hwt] at cr cc
                          have CC : Hid (∀ nq, Calls Try.prog 8 #[pt (S4.W i) 0] (wr.drewN nq) fun e w' => e = .returned (.bool (!wt)) ∧ w' = wr.drewN nq) := cc
                          clear cc hwt
                          cases wt with
                          | false =>
                            simp only [Bool.not_false] at cr CC
                            go_wp2
                            go_quiet (first | (go_at_call 8; refine Calls.quiet_of_same (CC.out _)))
                            go_wp2
                            go_roundg (y - (i + 1))
                            case measure => omega
                            case rel => exact ⟨i + 1, by omega, rfl, by go_num, below_drewN HBz.out _⟩
                          | true =>
                            simp only [Bool.not_true] at cr CC
                            go_wp2
                            go_quiet (first | (go_at_call 8; refine Calls.quiet_of_same (CC.out _)))
                            go_wp2
                            go_roundg (y - (i + 1))
                            case measure => omega
                            case rel => exact ⟨i + 1, by omega, rfl, by go_num, below_drewN HBz.out _⟩
                        · obtain rfl : i = y := by omega
                          go_wp2
                          go_ret
                          exact ⟨rfl, HEnd.out _ HBz⟩
                · have d3 : decide (lheld + x27 ≤ lroom) = false := decide_eq_false h2
                  clear h1 h2 HAl CB
                  go_wp2_with fail
                  refine CI1.out.mono ?_
                  rintro e w9 ⟨rfl, HB9⟩
                  go_wp2_with fail
                  refine (CI2.out w9 HB9).mono ?_
                  rintro e w10 ⟨rfl, HB10⟩
                  go_wp2_with fail
                  refine (CL.out w10 HB10).mono ?_
                  rintro e w11 ⟨rfl, HB11⟩
                  go_wp2_with fail
                  refine (CH.out w11 HB11).mono ?_
                  rintro e w12 ⟨rfl, HB12⟩
                  clear CI1 CI2 CL CH
                  go_wp2
                  go_loopg [32] j (fun q s32 wz => ∃ i : Nat, i ≤ j ∧ q = j - i ∧ s32 = .int .i64 i ∧ Hid (Below wr.heap.size wr wz))
                  case atStart => exact ⟨0, by omega, rfl, rfl, HB12⟩
                  case round =>
                    obtain ⟨i, hi, rfl, rfl, HBz⟩ := hrel
                    by_cases hlt : i < j
                    · have hdn : decide ((i : Int) < (j : Int)) = true := by rw [decide_eq_true_eq]; omega
                      obtain ⟨cw, cr, cc⟩ := CRz.out _ HBz i hlt
                      obtain ⟨wt, hwt⟩ : ∃ wt, st4.wt i = wt := ⟨_, rfl⟩
                      rw [hwt] at cr cc
                      have CC : Hid (∀ nq, Calls Try.prog 8 #[pt (S4.W i) 0] (wr.drewN nq) fun e w' => e = .returned (.bool (!wt)) ∧ w' = wr.drewN nq) := cc
                      clear cc hwt
                      cases wt with
                      | false =>
                        simp only [Bool.not_false] at cr CC
                        go_wp2
                        go_quiet (first | (go_at_call 8; refine Calls.quiet_of_same (CC.out _)))
                        go_wp2
                        go_roundg (j - (i + 1))
                        case measure => omega
                        case rel => exact ⟨i + 1, by omega, rfl, by go_num, below_drewN HBz.out _⟩
                      | true =>
                        simp only [Bool.not_true] at cr CC
                        go_wp2
                        go_quiet (first | (go_at_call 8; refine Calls.quiet_of_same (CC.out _)))
                        go_wp2
                        go_roundg (j - (i + 1))
                        case measure => omega
                        case rel => exact ⟨i + 1, by omega, rfl, by go_num, below_drewN HBz.out _⟩
                    · obtain rfl : i = j := by omega
                      go_wp2
                      go_ret
                      exact ⟨rfl, HEnd.out _ HBz⟩
              · have d1 : decide (held + x26 ≤ room) = false := decide_eq_false h1
                clear h1 HAl CB
                go_wp2_with fail
                refine CI1.out.mono ?_
                rintro e w9 ⟨rfl, HB9⟩
                go_wp2_with fail
                refine (CI2.out w9 HB9).mono ?_
                rintro e w10 ⟨rfl, HB10⟩
                go_wp2_with fail
                refine (CL.out w10 HB10).mono ?_
                rintro e w11 ⟨rfl, HB11⟩
                go_wp2_with fail
                refine (CH.out w11 HB11).mono ?_
                rintro e w12 ⟨rfl, HB12⟩
                clear CI1 CI2 CL CH
                go_wp2
                go_loopg [32] j (fun q s32 wz => ∃ i : Nat, i ≤ j ∧ q = j - i ∧ s32 = .int .i64 i ∧ Hid (Below wr.heap.size wr wz))
                case atStart => exact ⟨0, by omega, rfl, rfl, HB12⟩
                case round =>
                  obtain ⟨i, hi, rfl, rfl, HBz⟩ := hrel
                  by_cases hlt : i < j
                  · have hdn : decide ((i : Int) < (j : Int)) = true := by rw [decide_eq_true_eq]; omega
                    obtain ⟨cw, cr, cc⟩ := CRz.out _ HBz i hlt
                    obtain ⟨wt, hwt⟩ : ∃ wt, st4.wt i = wt := ⟨_, rfl⟩
                    rw [hwt] at cr cc
                    have CC : Hid (∀ nq, Calls Try.prog 8 #[pt (S4.W i) 0] (wr.drewN nq) fun e w' => e = .returned (.bool (!wt)) ∧ w' = wr.drewN nq) := cc
                    clear cc hwt
                    cases wt with
                    | false =>
                      simp only [Bool.not_false] at cr CC
                      go_wp2
                      go_quiet (first | (go_at_call 8; refine Calls.quiet_of_same (CC.out _)))
                      go_wp2
                      go_roundg (j - (i + 1))
                      case measure => omega
                      case rel => exact ⟨i + 1, by omega, rfl, by go_num, below_drewN HBz.out _⟩
                    | true =>
                      simp only [Bool.not_true] at cr CC
                      go_wp2
                      go_quiet (first | (go_at_call 8; refine Calls.quiet_of_same (CC.out _)))
                      go_wp2
                      go_roundg (j - (i + 1))
                      case measure => omega
                      case rel => exact ⟨i + 1, by omega, rfl, by go_num, below_drewN HBz.out _⟩
                  · obtain rfl : i = j := by omega
                    go_wp2
                    go_ret
                    exact ⟨rfl, HEnd.out _ HBz⟩
end Go.Proofs.Qxb6616981a
