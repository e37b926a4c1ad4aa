import Derived.Test.Qxb6617844aMin
import Derived.Test.Qxb6617844aSl
import Derived.Test.Qxb6617844aSteps
import Derived.BigQuiet
import Derived.Deep.QuietTactic
import Derived.Deep.DeepCutAuto
namespace Go.Proofs.Qxb6617844a
open Go.RowKit

/-- A row of five of the call's own. -/
def Row5 (w : World) (b : Nat) (f : Nat → Int) : Prop :=
  (∀ j, j < 5 → w.cell? ⟨b, j, none⟩ = some (.int .i64 (f j))) ∧ (∀ j, w.frozen? ⟨b, j, none⟩ = false)

theorem Row5.set {w : World} {b : Nat} {f : Nat → Int} (h : Row5 w b f) (k : Nat) (hk : k < 5) (v : Int) : Row5 (w.setCell ⟨b, k, none⟩ (.int .i64 v)) b (upd f k v) := by
  refine ⟨fun j hj => ?_, fun j => by rw [World.frozen?_setCell]; exact h.2 j⟩
  unfold upd
  by_cases e : j = k
  · subst e; rw [if_pos rfl]; exact World.cell?_setCell_same _ _ _ (h.1 j hj)
  · rw [if_neg e, World.cell?_setCell_other _ _ _ _ (by intro h; cases h; exact e rfl)]; exact h.1 j hj
theorem Row5.other {w : World} {b : Nat} {f : Nat → Int} (h : Row5 w b f) (b' k : Nat) (hb : b' ≠ b) (v : Value) : Row5 (w.setCell ⟨b', k, none⟩ v) b f := by
  refine ⟨fun j hj => ?_, fun j => by rw [World.frozen?_setCell]; exact h.2 j⟩
  rw [World.cell?_setCell_other _ _ _ _ (by intro h; cases h; exact hb rfl)]; exact h.1 j hj
theorem Row5.drew {w : World} {b : Nat} {f : Nat → Int} (h : Row5 w b f) : Row5 w.drew b f := h


def init (j : Nat) : Int := if j < 2 then 3 else (j : Int) - 2

/-- What the world holds while 'edits' runs: old memory as it was; three rows of five. -/
structure St (w wr : World) (F G H : Nat → Int) : Prop where
  bel : Below w.heap.size w wr
  sz : w.heap.size + 3 ≤ wr.heap.size
  f : Row5 wr w.heap.size F
  g : Row5 wr (w.heap.size + 1) G
  h : Row5 wr (w.heap.size + 1 + 1) H

theorem St.drew {w wr : World} {F G H : Nat → Int} (s : St w wr F G H) : St w wr.drew F G H := ⟨s.bel.drew, s.sz, s.f, s.g, s.h⟩
theorem St.drewN {w wr : World} {F G H : Nat → Int} (s : St w wr F G H) (q : Nat) : St w (wr.drewN q) F G H := ⟨below_drewN s.bel q, s.sz, s.f, s.g, s.h⟩
theorem St.set0 {w wr : World} {F G H : Nat → Int} (s : St w wr F G H) (k : Nat) (hk : k < 5) (v : Int) : St w (wr.setCell ⟨w.heap.size, k, none⟩ (.int .i64 v)) (upd F k v) G H :=
  ⟨s.bel.setCell (Nat.le_refl _) _, by simp; exact s.sz, s.f.set k hk v, s.g.other _ _ (by omega) _, s.h.other _ _ (by omega) _⟩
theorem St.set1 {w wr : World} {F G H : Nat → Int} (s : St w wr F G H) (k : Nat) (hk : k < 5) (v : Int) : St w (wr.setCell ⟨w.heap.size + 1, k, none⟩ (.int .i64 v)) F (upd G k v) H :=
  ⟨s.bel.setCell (by simp) _, by simp; exact s.sz, s.f.other _ _ (by omega) _, s.g.set k hk v, s.h.other _ _ (by omega) _⟩
theorem St.set2 {w wr : World} {F G H : Nat → Int} (s : St w wr F G H) (k : Nat) (hk : k < 5) (v : Int) : St w (wr.setCell ⟨w.heap.size + 1 + 1, k, none⟩ (.int .i64 v)) F G (upd H k v) :=
  ⟨s.bel.setCell (by show _ ≤ w.heap.size + 1 + 1; omega) _, by simp; exact s.sz, s.f.other _ _ (by omega) _, s.g.other _ _ (by omega) _, s.h.set k hk v⟩

theorem row5_new : ∀ j, j < 5 → (#[Value.int .i64 0, .int .i64 0, .int .i64 0, .int .i64 0, .int .i64 0] : Array Value)[j]? = some (.int .i64 0) := by
  intro j hj
  match j, hj with
  | 0, _ | 1, _ | 2, _ | 3, _ | 4, _ => rfl

theorem st_start (w : World) (o : Obj) (ho : o = .cells #[.int .i64 0, .int .i64 0, .int .i64 0, .int .i64 0, .int .i64 0] 32) :
    St w (((w.alloc o).alloc o).alloc o) (fun _ => 0) (fun _ => 0) (fun _ => 0) := by
  subst ho
  refine ⟨(((Below.refl _ _).alloc (Nat.le_refl _) _).alloc (by simp) _).alloc (by simp; omega) _, by simp, ⟨fun j hj => ?_, fun j => ?_⟩, ⟨fun j hj => ?_, fun j => ?_⟩, ⟨fun j hj => ?_, fun j => ?_⟩⟩
  · rw [World.cell?_alloc_past _ _ _ (by simp; omega), World.cell?_alloc_past _ _ _ (by simp), World.cell?_alloc_at _ _ _ _ rfl]; exact row5_new j hj
  · rw [World.frozen?_alloc_past _ _ _ (by simp; omega), World.frozen?_alloc_past _ _ _ (by simp), World.frozen?_alloc_at _ _ _ _ rfl]
  · rw [World.cell?_alloc_past _ _ _ (by simp), World.cell?_alloc_at _ _ _ _ (by simp)]; exact row5_new j hj
  · rw [World.frozen?_alloc_past _ _ _ (by simp), World.frozen?_alloc_at _ _ _ _ (by simp)]
  · rw [World.cell?_alloc_at _ _ _ _ (by simp)]; exact row5_new j hj
  · rw [World.frozen?_alloc_at _ _ _ _ (by simp)]

theorem upd_step {H : Nat → Int} {k : Nat} {p : Nat → Nat} (h : ∀ j, j < k → H j = p j) (v : Int) (hv : v = p k) : ∀ j, j < k + 1 → upd H k v j = p j := by
  intro j hj
  unfold upd
  by_cases e : j = k
  · subst e; simp [hv]
  · simp only [if_neg e]; exact h j (by omega)

theorem init_step {F G : Nat → Int} {k : Nat} (h : ∀ j, j < k → F j = 3 ∧ G j = init j) (v : Int) (hv : v = init k) : ∀ j, j < k + 1 → upd F k 3 j = 3 ∧ upd G k v j = init j := by
  intro j hj
  unfold upd
  by_cases e : j = k
  · subst e; simp [hv]
  · simp only [if_neg e]; exact h j (by omega)
theorem init_step2 {F G : Nat → Int} {k : Nat} (h : ∀ j, j < k → F j = 3 ∧ G j = init j) (u v : Int) (hv : v = init k) : ∀ j, j < k + 1 → upd F k 3 j = 3 ∧ upd (upd G k u) k v j = init j := by
  intro j hj
  unfold upd
  by_cases e : j = k
  · subst e; simp [hv]
  · simp only [if_neg e]; exact h j (by omega)

def u5 (f g : Nat → Int) : Nat → Int := upd (upd (upd (upd (upd f 0 (g 0)) 1 (g 1)) 2 (g 2)) 3 (g 3)) 4 (g 4)
theorem u5_eq (f g : Nat → Int) : ∀ j, j < 5 → u5 f g j = g j := by
  intro j hj
  match j, hj with
  | 0, _ | 1, _ | 2, _ | 3, _ | 4, _ => simp [u5, upd]
theorem St.shift {w wr : World} {F G H : Nat → Int} (s : St w wr F G H) :
    St w ((((((((((wr.setCell ⟨w.heap.size, 0, none⟩ (.int .i64 (G 0))).setCell ⟨w.heap.size, 1, none⟩ (.int .i64 (G 1))).setCell ⟨w.heap.size, 2, none⟩ (.int .i64 (G 2))).setCell ⟨w.heap.size, 3, none⟩ (.int .i64 (G 3))).setCell ⟨w.heap.size, 4, none⟩ (.int .i64 (G 4))).setCell
      ⟨w.heap.size + 1, 0, none⟩ (.int .i64 (H 0))).setCell ⟨w.heap.size + 1, 1, none⟩ (.int .i64 (H 1))).setCell ⟨w.heap.size + 1, 2, none⟩ (.int .i64 (H 2))).setCell ⟨w.heap.size + 1, 3, none⟩ (.int .i64 (H 3))).setCell ⟨w.heap.size + 1, 4, none⟩ (.int .i64 (H 4))).drew
      (u5 F G) (u5 G H) H :=
  ((((((((((s.set0 0 (by omega) _).set0 1 (by omega) _).set0 2 (by omega) _).set0 3 (by omega) _).set0 4 (by omega) _).set1 0 (by omega) _).set1 1 (by omega) _).set1 2 (by omega) _).set1 3 (by omega) _).set1 4 (by omega) _).drew

theorem minUp_le (f : Nat → Int) : ∀ k j, j ≤ k → minUp f k ≤ f j := by
  intro k
  induction k with
  | zero =>
    intro j hj
    have e : j = 0 := by omega
    rw [e]; exact Int.le_refl _
  | succ k ih =>
    intro j hj
    unfold minUp
    by_cases e : j = k + 1
    · subst e; omega
    · have := ih j (by omega); omega

set_option maxRecDepth 100000 in
set_option maxHeartbeats 8000000 in
theorem edits_any (a0 b0 : Option Addr) (n m ca cb : Nat) (fa fb : Nat → Int) (w : World) (hn : n ≤ 5000) (hm : m ≤ 5000) (h1 : n ≤ m + 2) (h2 : m ≤ n + 2)
    (ha : Sl w a0 n fa) (hb : Sl w b0 m fb) :
    Calls Try.prog 15 #[.slice a0 n ca, .slice b0 m cb] w fun e w' =>
      e = .returned (.int .i64 (min (Osa.D (fun i j => fa i == fb j) n m) 3 : Nat)) ∧ Below w.heap.size w w' := by
  go_enter Try.func15, Try.ntmps15
  go_wp2
  go_loopg [15] 5 (fun g i wr => ∃ k : Nat, k ≤ 5 ∧ g = 5 - k ∧ i = .int .i64 k ∧ ∃ F G H, St w wr F G H ∧ (∀ j, j < k → F j = 3 ∧ G j = init j))
  case atStart => exact ⟨0, by omega, rfl, rfl, fun _ => 0, fun _ => 0, fun _ => 0, st_start w _ rfl, fun j hj => by omega⟩
  case round =>
    obtain ⟨k, hk, rfl, rfl, F, G, H, hS, hFG⟩ := hrel
    by_cases hlt : k < 5
    · have cF := hS.f.1 k hlt
      have cG := hS.g.1 k hlt
      have fF := hS.f.2 k
      have fG := hS.g.2 k
      go_wp2
      · go_roundg (5 - (k + 1))
        case measure => omega
        case rel => exact ⟨k + 1, by omega, rfl, by go_num, _, _, _, ((hS.set0 k hlt 3).set1 k hlt 3).set1 k hlt _, init_step2 hFG _ _ (by unfold init; rw [if_neg (by omega)])⟩
      · go_roundg (5 - (k + 1))
        case measure => omega
        case rel => exact ⟨k + 1, by omega, rfl, by go_num, _, _, _, ((hS.set0 k hlt 3).set1 k hlt 3), init_step hFG _ (by unfold init; rw [if_pos (by omega)])⟩
    · obtain rfl : k = 5 := by omega
      clear hlt hk
      go_wp2
      go_loopg [10] n (fun g i wr => ∃ k : Nat, k ≤ n ∧ g = n - k ∧ i = .int .i64 ((k : Int) + 1) ∧ ∃ F G H, St w wr F G H ∧ (∀ j, j < 5 → G j = Osa.L (fun i j => fa i == fb j) m k j) ∧
          (1 ≤ k → ∀ j, j < 5 → F j = Osa.L (fun i j => fa i == fb j) m (k - 1) j))
      case atStart => exact ⟨0, by omega, rfl, rfl, F, G, H, hS, fun j hj => by rw [(hFG j hj).2]; simp only [Osa.L, if_pos, init]; split <;> omega, fun h => by omega⟩
      case round =>
        clear hS hFG
        obtain ⟨i, hi, rfl, rfl, F, G, H, hS, hG, hF⟩ := hrel
        by_cases hin : i < n
        · have hdn : decide ((i : Int) + 1 ≤ (n : Int)) = true := by rw [decide_eq_true_eq]; omega
          go_wp2
          go_loopg [36, 11] 5 (fun g c r wr => ∃ k : Nat, k ≤ 5 ∧ g = 5 - k ∧ c = .int .i64 k ∧ r = .int .i64 (Osa.NR (fun i j => fa i == fb j) m (i + 1) k : Nat) ∧
              ∃ H, St w wr F G H ∧ ∀ j, j < k → H j = Osa.B (fun i j => fa i == fb j) m (i + 1) j)
          case atStart => exact ⟨0, by omega, rfl, rfl, rfl, H, hS, fun j hj => by omega⟩
          case round =>
            clear hS
            obtain ⟨k, hk, rfl, rfl, rfl, H, hS, hH⟩ := hrel
            have hNR := Osa.NR_le (fun i j => fa i == fb j) m (i + 1) k
            by_cases hlt : k < 5
            · have cF := hS.f.1 k hlt
              have cG := hS.g.1 k hlt
              have cH := hS.h.1 k hlt
              have fH := hS.h.2 k
              by_cases c1 : (i : Int) + 1 + k - 2 < 0
              · have hv : (3 : Int) = ((Osa.B (fun i j => fa i == fb j) m (i + 1) k : Nat) : Int) := by rw [Osa.B_out _ _ _ _ (by omega)]; rfl
                have HV : Hid ((3 : Int) = ((Osa.B (fun i j => fa i == fb j) m (i + 1) k : Nat) : Int)) := hv
                have HH : Hid (∀ j, j < k → H j = Osa.B (fun i j => fa i == fb j) m (i + 1) j) := hH
                clear hv hH hG hF
                go_wp2
                go_roundg (5 - (k + 1))
                case measure => omega
                case rel => exact ⟨k + 1, by omega, rfl, by go_num, congrArg (Value.int .i64) (Osa.near_step _ m (i + 1) k 3 _ HV.out (by omega)), _, hS.set2 k hlt 3, upd_step HH.out 3 HV.out⟩
              · by_cases c2 : (m : Int) < (i : Int) + 1 + k - 2
                · have hv : (3 : Int) = ((Osa.B (fun i j => fa i == fb j) m (i + 1) k : Nat) : Int) := by rw [Osa.B_out _ _ _ _ (by omega)]; rfl
                  have HV : Hid ((3 : Int) = ((Osa.B (fun i j => fa i == fb j) m (i + 1) k : Nat) : Int)) := hv
                  have HH : Hid (∀ j, j < k → H j = Osa.B (fun i j => fa i == fb j) m (i + 1) j) := hH
                  clear hv hH hG hF
                  go_wp2
                  go_roundg (5 - (k + 1))
                  case measure => omega
                  case rel => exact ⟨k + 1, by omega, rfl, by go_num, congrArg (Value.int .i64) (Osa.near_step _ m (i + 1) k 3 _ HV.out (by omega)), _, hS.set2 k hlt 3, upd_step HH.out 3 HV.out⟩
                · by_cases c3 : (i : Int) + 1 + k - 2 = 0
                  · have hv : (i : Int) + 1 = ((Osa.B (fun i j => fa i == fb j) m (i + 1) k : Nat) : Int) := by rw [Osa.B_at_zero _ _ _ _ (by omega)]; omega
                    have HV : Hid ((i : Int) + 1 = ((Osa.B (fun i j => fa i == fb j) m (i + 1) k : Nat) : Int)) := hv
                    have HH : Hid (∀ j, j < k → H j = Osa.B (fun i j => fa i == fb j) m (i + 1) j) := hH
                    clear hv hH hG hF
                    go_wp2
                    all_goals
                      go_roundg (5 - (k + 1))
                      case measure => omega
                      case rel => exact ⟨k + 1, by omega, rfl, by go_num, congrArg (Value.int .i64) (Osa.near_step _ m (i + 1) k ((i : Int) + 1) _ HV.out (by omega)), _, hS.set2 k hlt _, upd_step HH.out _ HV.out⟩
                  · obtain ⟨j, hj⟩ : ∃ j, i + 1 + k = j + 1 + 2 := ⟨i + k - 2, by omega⟩
                    have hjI : (i : Int) + 1 + k - 2 = (j : Int) + 1 := by omega
                    have hjm : (j : Int) + 1 ≤ m := by omega
                    have HJ : Hid (i + 1 + k = j + 1 + 2) := hj
                    clear c1 c2 c3 hj
                    obtain ⟨ba, oa, rfl, hba, hca⟩ := ha (by omega)
                    obtain ⟨bb, ob, rfl, hbb, hcb⟩ := hb (by omega)
                    have xa : wr.cell? ⟨ba, oa + i, none⟩ = some (.int .i32 (fa i)) := (hS.bel.cell (p := ⟨ba, oa + i, none⟩) hba).trans (hca i hin)
                    have xb : wr.cell? ⟨bb, ob + j, none⟩ = some (.int .i32 (fb j)) := (hS.bel.cell (p := ⟨bb, ob + j, none⟩) hbb).trans (hcb j (by omega))
                    have bG : 0 ≤ G k ∧ G k ≤ 3 := by rw [hG k hlt]; have := Osa.L_le (fun i j => fa i == fb j) m i k hlt; omega
                    have bG1 : k + 1 < 5 → 0 ≤ G (k + 1) ∧ G (k + 1) ≤ 3 := fun hl => by rw [hG (k + 1) hl]; have := Osa.L_le (fun i j => fa i == fb j) m i (k + 1) hl; omega
                    have bH1 : 0 < k → 0 ≤ H (k - 1) ∧ H (k - 1) ≤ 3 := fun hl => by rw [hH (k - 1) (by omega)]; have := Osa.B_le (fun i j => fa i == fb j) m (i + 1) (k - 1); omega
                    have HG : Hid (∀ j, j < 5 → G j = Osa.L (fun i j => fa i == fb j) m i j) := hG
                    have HF : Hid (1 ≤ i → ∀ j, j < 5 → F j = Osa.L (fun i j => fa i == fb j) m (i - 1) j) := hF
                    have HH : Hid (∀ j, j < k → H j = Osa.B (fun i j => fa i == fb j) m (i + 1) j) := hH
                    have HCA : Hid (∀ j, j < n → w.cell? ⟨ba, oa + j, none⟩ = some (.int .i32 (fa j))) := hca
                    have HCB : Hid (∀ j, j < m → w.cell? ⟨bb, ob + j, none⟩ = some (.int .i32 (fb j))) := hcb
                    clear hG hF hH hca hcb
                    go_upto_if 66 with fail
                    go_cut [14] (fun c wc => ∃ x1 : Int, Hid (x1 = if k + 1 < 5 then G (k + 1) + 1 else 3) ∧ 0 ≤ x1 ∧ x1 ≤ 4 ∧ c = .int .i64 x1 ∧ wc = wr)
                    case first =>
                      by_cases d1 : k + 1 < 5
                      · have cG1 := hS.g.1 (k + 1) d1
                        have bG2 := bG1 d1
                        go_wp2
                        go_meet
                        case rel => exact ⟨_, (if_pos d1).symm, by omega, by omega, rfl, rfl⟩
                      · go_wp2
                        go_meet
                        case rel => exact ⟨3, (if_neg d1).symm, by omega, by omega, rfl, rfl⟩
                    case rest =>
                      obtain ⟨x1, hx1, l1, g1, rfl, rfl⟩ := hcut
                      go_upto_if 73 with fail
                      go_cut [14] (fun c wd => ∃ x2 : Int, Hid (x2 = if 0 < k then min x1 (H (k - 1) + 1) else x1) ∧ 0 ≤ x2 ∧ x2 ≤ 4 ∧ c = .int .i64 x2 ∧ wd = wc)
                      case first =>
                        by_cases d2 : 0 < k
                        · have cH1 := hS.h.1 (k - 1) (by omega)
                          have bH2 := bH1 d2
                          go_wp2
                          all_goals go_meet
                          all_goals exact ⟨_, (by show _ = _; rw [if_pos d2]; omega), by omega, by omega, rfl, rfl⟩
                        · go_wp2
                          go_meet
                          case rel => exact ⟨_, (if_neg d2).symm, by omega, by omega, rfl, rfl⟩
                      case rest =>
                        obtain ⟨x2, hx2, l2, g2, rfl, rfl⟩ := hcut
                        go_wp2
                        go_quiet (fail)
                        go_upto_if 91 with fail
                        go_cut [14] (fun c we => ∃ x3 : Int, Hid (x3 = min x2 (G k + if (fa i == fb j) = true then 0 else 1)) ∧ 0 ≤ x3 ∧ x3 ≤ 4 ∧ c = .int .i64 x3 ∧ we = wc.drewN nq)
                        case first =>
                          by_cases e0 : (fa i == fb j) = true
                          · go_wp2
                            all_goals go_meet
                            all_goals exact ⟨_, (by show _ = _; rw [if_pos e0]; omega), by omega, by omega, rfl, rfl⟩
                          · have e1 : (fa i == fb j) = false := by simpa using e0
                            go_wp2
                            all_goals go_meet
                            all_goals exact ⟨_, (by show _ = _; rw [if_neg e0]; omega), by omega, by omega, rfl, rfl⟩
                        case rest =>
                          obtain ⟨x3, hx3, l3, g3, rfl, rfl⟩ := hcut
                          have ga : 1 ≤ i → wc.cell? ⟨ba, oa + (i - 1), none⟩ = some (.int .i32 (fa (i - 1))) := fun _ => (hS.bel.cell (p := ⟨ba, oa + (i - 1), none⟩) hba).trans (HCA.out (i - 1) (by omega))
                          have gb : 1 ≤ j → wc.cell? ⟨bb, ob + (j - 1), none⟩ = some (.int .i32 (fb (j - 1))) := fun _ => (hS.bel.cell (p := ⟨bb, ob + (j - 1), none⟩) hbb).trans (HCB.out (j - 1) (by omega))
                          go_upto_region 31 with fail
                          go_cut [134] (fun c we => ∃ tb : Bool, Hid (tb = decide (1 ≤ i ∧ 1 ≤ j ∧ (fa i == fb (j - 1)) = true ∧ (fa (i - 1) == fb j) = true)) ∧ c = .bool tb ∧ ∃ q, we = wc.drewN q)
                          case first =>
                            by_cases t1 : 1 ≤ i
                            · have t1' : decide ((1 : Int) < (i : Int) + 1) = true := by rw [decide_eq_true_eq]; omega
                              by_cases t2 : 1 ≤ j
                              · have t2' : decide ((1 : Int) < (j : Int) + 1) = true := by rw [decide_eq_true_eq]; omega
                                have ga' := ga t1
                                have gb' := gb t2
                                clear ga gb
                                by_cases t3 : (fa i == fb (j - 1)) = true
                                · by_cases t4 : (fa (i - 1) == fb j) = true
                                  · go_quiet (fail)
                                    go_wp2
                                    go_meet
                                    case rel => exact ⟨_, (decide_eq_true (p := 1 ≤ i ∧ 1 ≤ j ∧ (fa i == fb (j - 1)) = true ∧ (fa (i - 1) == fb j) = true) ⟨t1, t2, t3, t4⟩).symm, rfl, _, World.drewN_drewN ..⟩
                                  · have t4' : (fa (i - 1) == fb j) = false := by simpa using t4
                                    go_quiet (fail)
                                    go_wp2
                                    go_meet
                                    case rel => exact ⟨_, (decide_eq_false (p := 1 ≤ i ∧ 1 ≤ j ∧ (fa i == fb (j - 1)) = true ∧ (fa (i - 1) == fb j) = true) (fun h => t4 h.2.2.2)).symm, rfl, _, World.drewN_drewN ..⟩
                                · have t3' : (fa i == fb (j - 1)) = false := by simpa using t3
                                  go_quiet (fail)
                                  go_wp2
                                  go_meet
                                  case rel => exact ⟨_, (decide_eq_false (p := 1 ≤ i ∧ 1 ≤ j ∧ (fa i == fb (j - 1)) = true ∧ (fa (i - 1) == fb j) = true) (fun h => t3 h.2.2.1)).symm, rfl, _, World.drewN_drewN ..⟩
                              · have t2' : decide ((1 : Int) < (j : Int) + 1) = false := by rw [decide_eq_false_iff_not]; omega
                                go_quiet (fail)
                                go_wp2
                                go_meet
                                case rel => exact ⟨_, (decide_eq_false (p := 1 ≤ i ∧ 1 ≤ j ∧ (fa i == fb (j - 1)) = true ∧ (fa (i - 1) == fb j) = true) (fun h => t2 h.2.1)).symm, rfl, _, World.drewN_drewN ..⟩
                            · have t1' : decide ((1 : Int) < (i : Int) + 1) = false := by rw [decide_eq_false_iff_not]; omega
                              go_quiet (fail)
                              go_wp2
                              go_meet
                              case rel => exact ⟨_, (decide_eq_false (p := 1 ≤ i ∧ 1 ≤ j ∧ (fa i == fb (j - 1)) = true ∧ (fa (i - 1) == fb j) = true) (fun h => t1 h.1)).symm, rfl, _, World.drewN_drewN ..⟩
                          case rest =>
                            obtain ⟨tb, hT, rfl, q, rfl⟩ := hcut
                            clear ga gb
                            have bF : 1 ≤ i → 0 ≤ F k ∧ F k ≤ 3 := fun hl => by rw [HF.out hl k hlt]; have := Osa.L_le (fun i j => fa i == fb j) m (i - 1) k hlt; omega
                            go_upto_if 134 with fail
                            go_cut [14] (fun c we => ∃ x4 : Int, Hid (x4 = if 1 ≤ i ∧ 1 ≤ j ∧ (fa i == fb (j - 1)) = true ∧ (fa (i - 1) == fb j) = true then min x3 (F k + 1) else x3) ∧ 0 ≤ x4 ∧ x4 ≤ 4 ∧ c = .int .i64 x4 ∧ we = wc.drewN q)
                            case first =>
                              cases tb with
                              | true =>
                                have T := of_decide_eq_true hT.out.symm
                                have bF' := bF T.1
                                have HT : Hid (1 ≤ i ∧ 1 ≤ j ∧ (fa i == fb (j - 1)) = true ∧ (fa (i - 1) == fb j) = true) := T
                                clear T bF
                                go_wp2
                                all_goals go_meet
                                all_goals exact ⟨_, (by show _ = _; rw [if_pos HT.out]; omega), by omega, by omega, rfl, rfl⟩
                              | false =>
                                clear bF
                                go_wp2
                                go_meet
                                case rel => exact ⟨_, (if_neg (of_decide_eq_false hT.out.symm)).symm, by omega, by omega, rfl, rfl⟩
                            case rest =>
                              obtain ⟨x4, hx4, l4, g4, rfl, rfl⟩ := hcut
                              clear bF
                              have HB : Hid (min x4 3 = ((Osa.B (fun i j => fa i == fb j) m (i + 1) k : Nat) : Int)) :=
                                Osa.step_int (fun i j => fa i == fb j) m i k j F G H x1 x2 x3 x4 HJ.out hjm hlt HG.out HF.out HH.out hx1.out hx2.out hx3.out hx4.out
                              go_wp2
                              all_goals
                                go_roundg (5 - (k + 1))
                                case measure => omega
                                case rel =>
                                  refine ⟨k + 1, by omega, rfl, by go_num, ?_, _, (hS.drewN q).set2 k hlt _, ?_⟩
                                  · exact congrArg (Value.int .i64) (Osa.near_step _ m (i + 1) k (min x4 3) _ HB.out (by omega))
                                  · exact upd_step HH.out _ (by have := HB.out; omega)
            · obtain rfl : k = 5 := by omega
              clear hlt hk
              have p0 := hS.f.1 0 (by omega)
              have p1 := hS.f.1 1 (by omega)
              have p2 := hS.f.1 2 (by omega)
              have p3 := hS.f.1 3 (by omega)
              have p4 := hS.f.1 4 (by omega)
              have g0 := hS.g.1 0 (by omega)
              have g1 := hS.g.1 1 (by omega)
              have g2 := hS.g.1 2 (by omega)
              have g3 := hS.g.1 3 (by omega)
              have g4 := hS.g.1 4 (by omega)
              have r0 := hS.h.1 0 (by omega)
              have r1 := hS.h.1 1 (by omega)
              have r2 := hS.h.1 2 (by omega)
              have r3 := hS.h.1 3 (by omega)
              have r4 := hS.h.1 4 (by omega)
              have HG : Hid (∀ j, j < 5 → G j = Osa.L (fun i j => fa i == fb j) m i j) := hG
              have HH : Hid (∀ j, j < 5 → H j = Osa.B (fun i j => fa i == fb j) m (i + 1) j) := hH
              have z0 := hS.f.2
              have z1 := hS.g.2
              clear hG hF hH
              by_cases hN : Osa.NR (fun i j => fa i == fb j) m (i + 1) 5 = 3
              · have hN' : (((Osa.NR (fun i j => fa i == fb j) m (i + 1) 5 : Nat) : Int) == 3) = true := by rw [hN]; rfl
                have HN : Hid (Osa.NR (fun i j => fa i == fb j) m (i + 1) 5 = 3) := hN
                clear hN
                by_cases hM : minUp G 4 = 3
                · have hM' : (minUp G 4 == 3) = true := by rw [hM]; rfl
                  go_wp2_with (go_at_call 17; refine (min_any (w.heap.size + 1) 5 5 G _ (by omega) (by omega) hS.g.1).mono ?_; rintro e w' ⟨rfl, rfl⟩)
                  go_ret
                  refine ⟨?_, hS.bel⟩
                  have hov := Osa.over_of (fun i j => fa i == fb j) n m i (by omega) HN.out (fun k hk => by
                    have a := minUp_le G 4 k (by omega)
                    have b := HG.out k hk
                    omega)
                  rw [hov]; rfl
                · have hM' : (minUp G 4 == 3) = false := by simpa using hM
                  go_wp2_with (go_at_call 17; refine (min_any (w.heap.size + 1) 5 5 G _ (by omega) (by omega) hS.g.1).mono ?_; rintro e w' ⟨rfl, rfl⟩)
                  go_region
                  all_goals go_wp2
                  all_goals
                    go_roundg (n - (i + 1))
                    case measure => omega
                    case rel =>
                      exact ⟨i + 1, by omega, rfl, by go_num, _, _, _, hS.shift, fun j hj => by rw [u5_eq _ _ j hj, HH.out j hj, Osa.L, if_neg (by omega)],
                        fun _ j hj => by rw [u5_eq _ _ j hj, HG.out j hj]; rfl⟩
              · have hN' : (((Osa.NR (fun i j => fa i == fb j) m (i + 1) 5 : Nat) : Int) == 3) = false := by
                  rw [beq_eq_false_iff_ne]; omega
                clear hN
                go_wp2
                go_region
                all_goals go_wp2
                all_goals
                  go_roundg (n - (i + 1))
                  case measure => omega
                  case rel =>
                    exact ⟨i + 1, by omega, rfl, by go_num, _, _, _, hS.shift, fun j hj => by rw [u5_eq _ _ j hj, HH.out j hj, Osa.L, if_neg (by omega)],
                      fun _ j hj => by rw [u5_eq _ _ j hj, HG.out j hj]; rfl⟩
        · obtain rfl : i = n := by omega
          have hd : (m : Int) - i + 2 = ((m + 2 - i : Nat) : Int) := by omega
          have cG := hS.g.1 (m + 2 - i) (by omega)
          have HG := hG (m + 2 - i) (by omega)
          have HD : Hid (G (m + 2 - i) = ((min (Osa.D (fun i j => fa i == fb j) i m) 3 : Nat) : Int)) := by
            show _ = _
            rw [HG, Osa.L_in (fun i j => fa i == fb j) m i (m + 2 - i) m (by omega) (by omega) (by omega)]
          clear HG hG hF
          go_wp2
          go_ret
          refine ⟨?_, hS.bel⟩
          exact congrArg (fun x => Ending.returned (Value.int .i64 x)) HD.out
end Go.Proofs.Qxb6617844a
