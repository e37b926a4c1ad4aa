import Derived.Test.Qxb6617844aLaws
import Derived.Test.Qxb6617844aSl
import Derived.BigQuiet
import Derived.Deep.QuietTactic
import Derived.Deep.DeepCutAuto
namespace Go.Proofs.Qxb6617844a
open Go.RowKit

def pre : Nat → Int
  | 0 => -1
  | i + 1 => i

theorem pre_eq (i : Nat) : (i : Int) - 1 = pre i := by
  cases i with
  | zero => rfl
  | succ i => simp [pre]

/-- A new row of n zeros. -/
def zr (n : Nat) : Obj := .cells (madeCells (Value.int .i64 0).cells n) 3

theorem info3 : (Try.prog.info? 3).map (fun i => (i.zero, i.size, i.bytes)) = some (some (.int .i64 0), 1, 8) := by kernel_rfl

theorem make31 (m : Nat) (hm : m ≤ 5000) (w : World) :
    (Instr.makeSlice 31 (.int .i64 ((m : Int) + 1)) (.int .i64 ((m : Int) + 1))).run Try.prog w = .ok (.slice (some ⟨w.heap.size, 0, none⟩) (m + 1) (m + 1)) (w.alloc (zr (m + 1))) := by
  obtain ⟨i0, hi, hz0, hz1, hz2⟩ := info_parts info3
  have := run_make (P := Try.prog) w 31 3 i0 (.int .i64 0) Try.underlying31 hi hz0 .i64 .i64 ((m : Int) + 1) ((m : Int) + 1) (by omega) (by omega) (by rw [hz2]; omega) (by omega)
  rw [this, hz1, Nat.mul_one, show ((m : Int) + 1).toNat = m + 1 from by omega]
  rfl

/-- A row of m + 1 of the call's own. -/
def RowM (w : World) (b m : Nat) (f : Nat → Int) : Prop :=
  (∀ j, j ≤ m → w.cell? ⟨b, j, none⟩ = some (.int .i64 (f j))) ∧ (∀ j, w.frozen? ⟨b, j, none⟩ = false)

theorem RowM.set {w : World} {b m : Nat} {f : Nat → Int} (h : RowM w b m f) (k : Nat) (hk : k ≤ m) (v : Int) : RowM (w.setCell ⟨b, k, none⟩ (.int .i64 v)) b m (upd f k v) := by
  refine ⟨fun j hj => ?_, fun j => by rw [World.frozen?_setCell]; exact h.2 j⟩
  unfold upd
  by_cases e : j = k
  · subst e; rw [if_pos rfl]; exact World.cell?_setCell_same _ _ _ (h.1 j hj)
  · rw [if_neg e, World.cell?_setCell_other _ _ _ _ (by intro h; cases h; exact e rfl)]; exact h.1 j hj
theorem RowM.other {w : World} {b m : Nat} {f : Nat → Int} (h : RowM w b m f) (b' k : Nat) (hb : b' ≠ b) (v : Value) : RowM (w.setCell ⟨b', k, none⟩ v) b m f := by
  refine ⟨fun j hj => ?_, fun j => by rw [World.frozen?_setCell]; exact h.2 j⟩
  rw [World.cell?_setCell_other _ _ _ _ (by intro h; cases h; exact hb rfl)]; exact h.1 j hj

theorem rowM_new (w : World) (m : Nat) : RowM (w.alloc (zr (m + 1))) w.heap.size m (fun _ => 0) := by
  refine ⟨fun j hj => ?_, fun j => ?_⟩
  · rw [zr, World.cell?_alloc_at _ _ _ _ rfl]
    rw [Array.getElem?_eq_getElem (by rw [size_madeCells]; omega)]
    simp [madeCells, Value.cells, Nat.mod_one]
  · rw [zr, World.frozen?_alloc_at _ _ _ _ rfl]
theorem RowM.alloc {w : World} {b m : Nat} {f : Nat → Int} (h : RowM w b m f) (hb : b < w.heap.size) (o : Obj) : RowM (w.alloc o) b m f := by
  refine ⟨fun j hj => ?_, fun j => ?_⟩
  · rw [World.cell?_alloc_past _ _ _ hb]; exact h.1 j hj
  · rw [World.frozen?_alloc_past _ _ _ hb]; exact h.2 j

/-- What the world holds while 'osaFromTheEnd' runs: old memory as it was; three rows in three blocks. -/
structure Ot (w wr : World) (m b2 b1 b0 : Nat) (F G H : Nat → Int) : Prop where
  bel : Below w.heap.size w wr
  l2 : w.heap.size ≤ b2
  l1 : w.heap.size ≤ b1
  l0 : w.heap.size ≤ b0
  d21 : b2 ≠ b1
  d20 : b2 ≠ b0
  d10 : b1 ≠ b0
  f : RowM wr b2 m F
  g : RowM wr b1 m G
  h : RowM wr b0 m H

theorem Ot.drewN {w wr : World} {m b2 b1 b0 : Nat} {F G H : Nat → Int} (s : Ot w wr m b2 b1 b0 F G H) (q : Nat) : Ot w (wr.drewN q) m b2 b1 b0 F G H :=
  ⟨below_drewN s.bel q, s.l2, s.l1, s.l0, s.d21, s.d20, s.d10, s.f, s.g, s.h⟩
theorem Ot.set1 {w wr : World} {m b2 b1 b0 : Nat} {F G H : Nat → Int} (s : Ot w wr m b2 b1 b0 F G H) (k : Nat) (hk : k ≤ m) (v : Int) : Ot w (wr.setCell ⟨b1, k, none⟩ (.int .i64 v)) m b2 b1 b0 F (upd G k v) H :=
  ⟨s.bel.setCell s.l1 _, s.l2, s.l1, s.l0, s.d21, s.d20, s.d10, s.f.other _ _ (fun h => s.d21 h.symm) _, s.g.set k hk v, s.h.other _ _ s.d10 _⟩
theorem Ot.set0 {w wr : World} {m b2 b1 b0 : Nat} {F G H : Nat → Int} (s : Ot w wr m b2 b1 b0 F G H) (k : Nat) (hk : k ≤ m) (v : Int) : Ot w (wr.setCell ⟨b0, k, none⟩ (.int .i64 v)) m b2 b1 b0 F G (upd H k v) :=
  ⟨s.bel.setCell s.l0 _, s.l2, s.l1, s.l0, s.d21, s.d20, s.d10, s.f.other _ _ (fun h => s.d20 h.symm) _, s.g.other _ _ (fun h => s.d10 h.symm) _, s.h.set k hk v⟩
theorem Ot.turn {w wr : World} {m b2 b1 b0 : Nat} {F G H : Nat → Int} (s : Ot w wr m b2 b1 b0 F G H) : Ot w wr m b1 b0 b2 G H F :=
  ⟨s.bel, s.l1, s.l0, s.l2, s.d10, fun h => s.d21 h.symm, fun h => s.d20 h.symm, s.g, s.h, s.f⟩
theorem ot_start (w : World) (m : Nat) : Ot w (((w.alloc (zr (m + 1))).alloc (zr (m + 1))).alloc (zr (m + 1))) m w.heap.size (w.heap.size + 1) (w.heap.size + 1 + 1) (fun _ => 0) (fun _ => 0) (fun _ => 0) := by
  refine ⟨(((Below.refl _ _).alloc (Nat.le_refl _) _).alloc (by simp) _).alloc (by simp; omega) _, by omega, by omega, by omega, by omega, by omega, by omega, ?_, ?_, ?_⟩
  · exact ((rowM_new w m).alloc (by simp) _).alloc (by simp; omega) _
  · have := (rowM_new (w.alloc (zr (m + 1))) m).alloc (by simp) (zr (m + 1))
    simpa using this
  · have := rowM_new ((w.alloc (zr (m + 1))).alloc (zr (m + 1))) m
    simpa using this

set_option maxRecDepth 100000 in
set_option maxHeartbeats 8000000 in
theorem osa_any (a0 b0 : Option Addr) (n m ca cb : Nat) (fa fb : Nat → Int) (w : World) (hn : n ≤ 5000) (hm : m ≤ 5000)
    (ha : Sl w a0 n fa) (hb : Sl w b0 m fb) :
    Calls Try.prog 8 #[.slice a0 n ca, .slice b0 m cb] w fun e w' =>
      e = .returned (.int .i64 (Osa.S (fun i j => fa i == fb j) n m 0 0 : Nat)) ∧ Below w.heap.size w w' := by
  have hmk := make31 m hm
  go_enter Try.func8, Try.ntmps8
  go_wp2
  go_loopg [10] (m + 1) (fun g i wr => ∃ k : Nat, k ≤ m + 1 ∧ g = m + 1 - k ∧ i = .int .i64 k ∧ ∃ F G H, Ot w wr m w.heap.size (w.heap.size + 1) (w.heap.size + 1 + 1) F G H ∧ (∀ j, j < k → G j = (m : Int) - j))
  case atStart => exact ⟨0, by omega, rfl, rfl, fun _ => 0, fun _ => 0, fun _ => 0, ot_start w m, fun j hj => by omega⟩
  case round =>
    obtain ⟨k, hk, rfl, rfl, F, G, H, hS, hG⟩ := hrel
    have HG : Hid (∀ j, j < k → G j = (m : Int) - j) := hG
    clear hG
    by_cases hlt : k < m + 1
    · have cG := hS.g.1 k (by omega)
      have fG := hS.g.2 k
      go_wp2
      go_roundg (m + 1 - (k + 1))
      case measure => omega
      case rel =>
        refine ⟨k + 1, by omega, rfl, by go_num, _, _, _, hS.set1 k (by omega) _, fun j hj => ?_⟩
        unfold upd
        by_cases e : j = k
        · subst e; rw [if_pos rfl]
        · rw [if_neg e]; exact HG.out j (by omega)
    · obtain rfl : k = m + 1 := by omega
      clear hlt hk
      go_wp2
      go_loopg [7, 8, 9, 11] n (fun g s7 s8 s9 s11 wr => g ≤ n ∧ s11 = .int .i64 (pre g) ∧ ∃ b2 b1 b0 F G H, s7 = .slice (some ⟨b2, 0, none⟩) (m + 1) (m + 1) ∧ s8 = .slice (some ⟨b1, 0, none⟩) (m + 1) (m + 1) ∧
          s9 = .slice (some ⟨b0, 0, none⟩) (m + 1) (m + 1) ∧ Ot w wr m b2 b1 b0 F G H ∧ (∀ j, j ≤ m → G j = (Osa.S (fun i j => fa i == fb j) n m g j : Nat)) ∧
          (g + 1 ≤ n → ∀ j, j ≤ m → F j = (Osa.S (fun i j => fa i == fb j) n m (g + 1) j : Nat)))
      case atStart =>
        refine ⟨Nat.le_refl _, ?_, _, _, _, _, _, _, rfl, rfl, rfl, hS, fun j hj => ?_, fun h => by omega⟩
        · cases n with
          | zero => rfl
          | succ n => exact congrArg (Value.int .i64) (by simp [pre])
        · rw [HG.out j (by omega), Osa.S_end]; omega
      case round =>
        clear hS HG
        obtain ⟨hg, rfl, b2, b1, bh, F, G, H, rfl, rfl, rfl, hS, hG, hF⟩ := hrel
        cases gk with
        | zero =>
          have hp : pre 0 = -1 := rfl
          have c0 := hS.g.1 0 (by omega)
          have HG := hG 0 (by omega)
          have HD : Hid (G 0 = ((Osa.S (fun i j => fa i == fb j) n m 0 0 : Nat) : Int)) := HG
          clear hG hF HG
          go_wp2
          go_ret
          exact ⟨congrArg (fun x => Ending.returned (Value.int .i64 x)) HD.out, hS.bel⟩
        | succ i =>
          have hp : pre (i + 1) = (i : Int) := rfl
          have hge : decide ((0 : Int) ≤ (i : Int)) = true := by rw [decide_eq_true_eq]; omega
          have cH := hS.h.1 m (Nat.le_refl _)
          have fH := hS.h.2
          have HG : Hid (∀ j, j ≤ m → G j = (Osa.S (fun i j => fa i == fb j) n m (i + 1) j : Nat)) := hG
          have HF : Hid (i + 1 + 1 ≤ n → ∀ j, j ≤ m → F j = (Osa.S (fun i j => fa i == fb j) n m (i + 1 + 1) j : Nat)) := hF
          clear hG hF
          go_wp2
          go_loopg [12] m (fun g s12 wr => g ≤ m ∧ s12 = .int .i64 (pre g) ∧ ∃ H, Ot w wr m b2 b1 bh F G H ∧ ∀ j, g ≤ j → j ≤ m → H j = (Osa.S (fun i j => fa i == fb j) n m i j : Nat))
          case atStart =>
            refine ⟨Nat.le_refl _, ?_, _, hS.set0 m (Nat.le_refl _) _, fun j h1 h2 => ?_⟩
            · cases m with
              | zero => rfl
              | succ m => exact congrArg (Value.int .i64) (by simp [pre])
            · obtain rfl : j = m := by omega
              rw [Osa.S_side]; unfold upd; rw [if_pos rfl]; omega
          case round =>
            clear hS cH fH
            obtain ⟨hgm, rfl, H, hS, hH⟩ := hrel
            cases gk with
            | zero =>
              have hp0 : pre 0 = -1 := rfl
              have HH : Hid (∀ j, 0 ≤ j → j ≤ m → H j = (Osa.S (fun i j => fa i == fb j) n m i j : Nat)) := hH
              clear hH
              go_wp2
              go_roundg i
              case measure => omega
              case rel =>
                exact ⟨by omega, congrArg (Value.int .i64) (pre_eq i), _, _, _, _, _, _, rfl, rfl, rfl, hS.turn, fun j hj => HH.out j (by omega) hj, fun _ j hj => HG.out j hj⟩
            | succ j =>
              have hpj : pre (j + 1) = (j : Int) := rfl
              have HH : Hid (∀ p, j + 1 ≤ p → p ≤ m → H p = (Osa.S (fun i j => fa i == fb j) n m i p : Nat)) := hH
              clear hH
              obtain ⟨ba, oa, rfl, hba, hca⟩ := ha (by omega)
              obtain ⟨bb, ob, rfl, hbb, hcb⟩ := hb (by omega)
              have xa : wr.cell? ⟨ba, oa + i, none⟩ = some (.int .i32 (fa i)) := (hS.bel.cell (p := ⟨ba, oa + i, none⟩) hba).trans (hca i (by omega))
              have xb : wr.cell? ⟨bb, ob + j, none⟩ = some (.int .i32 (fb j)) := (hS.bel.cell (p := ⟨bb, ob + j, none⟩) hbb).trans (hcb j (by omega))
              have HCA : Hid (∀ j, j < n → w.cell? ⟨ba, oa + j, none⟩ = some (.int .i32 (fa j))) := hca
              have HCB : Hid (∀ j, j < m → w.cell? ⟨bb, ob + j, none⟩ = some (.int .i32 (fb j))) := hcb
              clear hca hcb
              have c1 := hS.g.1 j (by omega)
              have c2 := hS.g.1 (j + 1) (by omega)
              have c3 := hS.h.1 (j + 1) (by omega)
              have c4 := hS.h.1 j (by omega)
              have f4 := hS.h.2 j
              have b1 : 0 ≤ G j ∧ G j ≤ 10000 := by rw [HG.out j (by omega)]; have := Osa.S_le (fun i j => fa i == fb j) n m (i + 1) j; omega
              have b2' : 0 ≤ G (j + 1) ∧ G (j + 1) ≤ 10000 := by rw [HG.out (j + 1) (by omega)]; have := Osa.S_le (fun i j => fa i == fb j) n m (i + 1) (j + 1); omega
              have b3 : 0 ≤ H (j + 1) ∧ H (j + 1) ≤ 10000 := by rw [HH.out (j + 1) (by omega) (by omega)]; have := Osa.S_le (fun i j => fa i == fb j) n m i (j + 1); omega
              have dj : decide ((0 : Int) ≤ (j : Int)) = true := by rw [decide_eq_true_eq]; omega
              go_upto_if 70 with fail
              go_cut [13] (fun c wc => ∃ x2 : Int, Hid (x2 = min (G j + 1) (H (j + 1) + 1)) ∧ 0 ≤ x2 ∧ x2 ≤ 10001 ∧ c = .int .i64 x2 ∧ wc = wr)
              case first =>
                go_wp2
                all_goals go_meet
                all_goals exact ⟨_, (by show _ = _; omega), by omega, by omega, rfl, rfl⟩
              case rest =>
                obtain ⟨x2, hx2, l2, g2, rfl, rfl⟩ := hcut
                go_wp2
                go_quiet (fail)
                go_upto_if 90 with fail
                go_cut [14] (fun c we => ∃ y : Int, Hid (y = G (j + 1) + if (fa i == fb j) = true then 0 else 1) ∧ 0 ≤ y ∧ y ≤ 10001 ∧ c = .int .i64 y ∧ we = wc.drewN nq)
                case first =>
                  by_cases e0 : (fa i == fb j) = true
                  · have e1 : (fa i != fb j) = false := by simpa using e0
                    go_wp2
                    go_meet
                    case rel => exact ⟨_, (by show _ = _; rw [if_pos e0]; omega), by omega, by omega, rfl, rfl⟩
                  · have e1 : (fa i != fb j) = true := by simpa using e0
                    go_wp2
                    go_meet
                    case rel => exact ⟨_, (by show _ = _; rw [if_neg e0]), by omega, by omega, rfl, rfl⟩
                case rest =>
                  obtain ⟨y, hy, ly, gy, rfl, rfl⟩ := hcut
                  go_upto_if 95 with fail
                  go_cut [13] (fun c we => ∃ x3 : Int, Hid (x3 = min x2 y) ∧ 0 ≤ x3 ∧ x3 ≤ 10001 ∧ c = .int .i64 x3 ∧ we = wc.drewN nq)
                  case first =>
                    go_wp2
                    all_goals go_meet
                    all_goals exact ⟨_, (by show _ = _; omega), by omega, by omega, rfl, rfl⟩
                  case rest =>
                    obtain ⟨x3, hx3, l3, g3, rfl, rfl⟩ := hcut
                    go_upto_region 25 with fail
                    have ga : i + 1 < n → wc.cell? ⟨ba, oa + (i + 1), none⟩ = some (.int .i32 (fa (i + 1))) := fun hl => (hS.bel.cell (p := ⟨ba, oa + (i + 1), none⟩) hba).trans (HCA.out (i + 1) hl)
                    have gb : j + 1 < m → wc.cell? ⟨bb, ob + (j + 1), none⟩ = some (.int .i32 (fb (j + 1))) := fun hl => (hS.bel.cell (p := ⟨bb, ob + (j + 1), none⟩) hbb).trans (HCB.out (j + 1) hl)
                    go_cut [130] (fun c we => ∃ tb : Bool, Hid (tb = decide (i + 1 < n ∧ j + 1 < m ∧ (fa i == fb (j + 1)) = true ∧ (fa (i + 1) == fb j) = true)) ∧ c = .bool tb ∧ ∃ q, we = wc.drewN q)
                    case first =>
                      by_cases t1 : i + 1 < n
                      · have t1' : decide ((i : Int) + 1 < (n : Int)) = true := by rw [decide_eq_true_eq]; omega
                        by_cases t2 : j + 1 < m
                        · have t2' : decide ((j : Int) + 1 < (m : Int)) = true := by rw [decide_eq_true_eq]; omega
                          have ga' := ga t1
                          have gb' := gb t2
                          clear ga gb
                          by_cases t3 : (fa i == fb (j + 1)) = true
                          · by_cases t4 : (fa (i + 1) == fb j) = true
                            · go_quiet (fail)
                              go_wp2
                              go_meet
                              case rel => exact ⟨_, (decide_eq_true (p := i + 1 < n ∧ j + 1 < m ∧ (fa i == fb (j + 1)) = true ∧ (fa (i + 1) == fb j) = true) ⟨t1, t2, t3, t4⟩).symm, rfl, _, World.drewN_drewN ..⟩
                            · have t4' : (fa (i + 1) == fb j) = false := by simpa using t4
                              go_quiet (fail)
                              go_wp2
                              go_meet
                              case rel => exact ⟨_, (decide_eq_false (p := i + 1 < n ∧ j + 1 < m ∧ (fa i == fb (j + 1)) = true ∧ (fa (i + 1) == fb j) = true) (fun h => t4 h.2.2.2)).symm, rfl, _, World.drewN_drewN ..⟩
                          · have t3' : (fa i == fb (j + 1)) = false := by simpa using t3
                            go_quiet (fail)
                            go_wp2
                            go_meet
                            case rel => exact ⟨_, (decide_eq_false (p := i + 1 < n ∧ j + 1 < m ∧ (fa i == fb (j + 1)) = true ∧ (fa (i + 1) == fb j) = true) (fun h => t3 h.2.2.1)).symm, rfl, _, World.drewN_drewN ..⟩
                        · have t2' : decide ((j : Int) + 1 < (m : Int)) = false := by rw [decide_eq_false_iff_not]; omega
                          go_quiet (fail)
                          go_wp2
                          go_meet
                          case rel => exact ⟨_, (decide_eq_false (p := i + 1 < n ∧ j + 1 < m ∧ (fa i == fb (j + 1)) = true ∧ (fa (i + 1) == fb j) = true) (fun h => t2 h.2.1)).symm, rfl, _, World.drewN_drewN ..⟩
                      · have t1' : decide ((i : Int) + 1 < (n : Int)) = false := by rw [decide_eq_false_iff_not]; omega
                        go_quiet (fail)
                        go_wp2
                        go_meet
                        case rel => exact ⟨_, (decide_eq_false (p := i + 1 < n ∧ j + 1 < m ∧ (fa i == fb (j + 1)) = true ∧ (fa (i + 1) == fb j) = true) (fun h => t1 h.1)).symm, rfl, _, World.drewN_drewN ..⟩
                    case rest =>
                      obtain ⟨tb, hT, rfl, q, rfl⟩ := hcut
                      clear ga gb
                      go_upto_if 130 with fail
                      go_cut [13] (fun c we => ∃ x4 : Int, Hid (x4 = if i + 1 < n ∧ j + 1 < m ∧ (fa i == fb (j + 1)) = true ∧ (fa (i + 1) == fb j) = true then min x3 (F (j + 2) + 1) else x3) ∧ 0 ≤ x4 ∧ x4 ≤ 10001 ∧ c = .int .i64 x4 ∧ we = wc.drewN q)
                      case first =>
                        cases tb with
                        | true =>
                          have T := of_decide_eq_true hT.out.symm
                          have c5 := hS.f.1 (j + 2) (by omega)
                          have b5 : 0 ≤ F (j + 2) ∧ F (j + 2) ≤ 10000 := by
                            rw [HF.out (by omega) (j + 2) (by omega)]; have := Osa.S_le (fun i j => fa i == fb j) n m (i + 1 + 1) (j + 2); omega
                          have hj2 : j + 1 < m := T.2.1
                          have HT : Hid (i + 1 < n ∧ j + 1 < m ∧ (fa i == fb (j + 1)) = true ∧ (fa (i + 1) == fb j) = true) := T
                          clear T
                          go_wp2
                          all_goals go_meet
                          all_goals exact ⟨_, (by show _ = _; rw [if_pos HT.out]; omega), by omega, by omega, rfl, rfl⟩
                        | false =>
                          go_wp2
                          go_meet
                          case rel => exact ⟨_, (if_neg (of_decide_eq_false hT.out.symm)).symm, by omega, by omega, rfl, rfl⟩
                      case rest =>
                        obtain ⟨x4, hx4, l4, g4, rfl, rfl⟩ := hcut
                        have HB : Hid (x4 = ((Osa.S (fun i j => fa i == fb j) n m i j : Nat) : Int)) := by
                          refine Osa.S_step (fun i j => fa i == fb j) n m i j (by omega) (by omega) (G j + 1) x2 x3 x4 (by rw [HG.out j (by omega)]) ?_ ?_ ?_
                          · rw [hx2.out, HH.out (j + 1) (by omega) (by omega)]
                          · rw [hx3.out, hy.out, HG.out (j + 1) (by omega)]
                          · rw [hx4.out]
                            by_cases c : i + 1 < n ∧ j + 1 < m ∧ (fa i == fb (j + 1)) = true ∧ (fa (i + 1) == fb j) = true
                            · rw [if_pos c, if_pos c, HF.out (by omega) (j + 2) (by omega)]
                            · rw [if_neg c, if_neg c]
                        go_wp2
                        go_roundg j
                        case measure => omega
                        case rel =>
                          refine ⟨by omega, congrArg (Value.int .i64) (pre_eq j), _, (hS.drewN q).set0 j (by omega) _, fun p h1 h2 => ?_⟩
                          unfold upd
                          by_cases e : p = j
                          · subst e; rw [if_pos rfl]; exact HB.out
                          · rw [if_neg e]; exact HH.out p (by omega) h2
end Go.Proofs.Qxb6617844a
