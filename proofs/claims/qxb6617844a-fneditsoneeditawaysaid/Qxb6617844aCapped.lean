import Derived.Test.Qxb6617844aShare
import Derived.Test.Qxb6617844aEnd
namespace Go.Proofs.Qxb6617844a
open Go.RowKit

/-- Behind a copy into a new row: the row, read as a slice. -/
theorem Moved.sl {w w' : World} {g n : Nat} {f : Nat → Int} (h : Moved w w' g 0 n (fun j => .int .i32 (f j))) (hg : g < w.heap.size) : Sl w' (some ⟨g, 0, none⟩) n f := by
  intro _
  refine ⟨g, 0, rfl, by rw [h.size]; exact hg, fun j hj => h.inn j hj⟩

theorem Sl.src {w : World} {a : Option Addr} {n : Nat} {f : Nat → Int} (h : Sl w a n f) : 0 < n → ∃ b p, a = some ⟨b, p, none⟩ ∧ ∀ j, j < n → w.cell? ⟨b, p + j, none⟩ = some ((fun j => Value.int .i32 (f j)) j) := by
  intro hn
  obtain ⟨b, o, h1, _, h3⟩ := h hn
  exact ⟨b, o, h1, h3⟩

theorem alloc_bel (w : World) (o : Obj) : Below w.heap.size w (w.alloc o) := (Below.refl _ _).alloc (Nat.le_refl _) _

set_option maxRecDepth 100000 in
set_option maxHeartbeats 4000000 in
theorem capped_in (a0 : Option Addr) (n cap0 : Nat) (fa : Nat → Int) (a1 : Option Addr) (m cap1 : Nat) (fb : Nat → Int) (w : World) (ha : Sl w a0 n fa) (hb : Sl w a1 m fb)
    (hn : n ≤ 4096) (hm : m ≤ 4096) (h1 : n ≤ m + 2) (h2 : m ≤ n + 2) :
    Calls Try.prog 3 #[.slice a0 n cap0, .slice a1 m cap1] w fun e w' => e = .returned (.bool true) ∧ Below w.heap.size w w' := by
  have hq := fun (w : World) (a : Option Addr) (n c : Nat) => run_neq_slice_nil_any (P := Try.prog) w 22 21 a n c 0 0 Try.underlying22
  have hmk0 := make22 n n (Nat.le_refl _) (by omega)
  have hmk1 := make22 m m (Nat.le_refl _) (by omega)
  have HA : Hid (Sl w a0 n fa) := ha
  have HB : Hid (Sl w a1 m fb) := hb
  clear ha hb
  go_enter Try.func3, Try.ntmps3
  go_upto_if 33 with go_in
  go_cut [0, 5] (fun s0 _ wc => ∃ a' c', s0 = .slice a' n c' ∧ Hid (Sl wc a' n fa) ∧ Below w.heap.size w wc)
  case first =>
    cases ha : a0.isSome with
    | false =>
      go_wp2
      go_meet
      case rel => exact ⟨_, _, rfl, HA, Below.refl _ _⟩
    | true =>
      go_wp2_with (refine wpList_copy_moved rfl (.tmp 37) (.tmp 38) 22 22 rfl 21 Try.underlying22 size21 w.heap.size 0 n n cap0 a0 rfl rfl (fun j => .int .i32 (fa j)) ?c1 ?c2 ?c3 ?c4 ?_)
      case c1 => exact (HA.out.below (alloc_bel w _)).src
      case c2 => intro j hj; rw [Nat.zero_add, zr32_cell w n j hj]; rfl
      case c3 => intro j hj; exact zr32_frozen w n _
      case c4 => intro j hj; rfl
      intro w1 hw1
      go_wp2
      go_meet
      case rel => exact ⟨_, _, rfl, hw1.sl (by simp), hw1.below (alloc_bel w _) (Nat.le_refl _)⟩
  case rest =>
    obtain ⟨a', c', rfl, HA', hbel⟩ := hcut
    have HB' : Hid (Sl wc a1 m fb) := HB.out.below hbel
    go_upto_if 42 with go_in
    go_cut [1, 6] (fun s1 _ wd => ∃ b' d', s1 = .slice b' m d' ∧ Hid (Sl wd b' m fb) ∧ Hid (Sl wd a' n fa) ∧ Below w.heap.size w wd)
    case first =>
      cases hb : a1.isSome with
      | false =>
        go_wp2
        go_meet
        case rel => exact ⟨_, _, rfl, HB', HA', hbel⟩
      | true =>
        go_wp2_with (refine wpList_copy_moved rfl (.tmp 46) (.tmp 47) 22 22 rfl 21 Try.underlying22 size21 wc.heap.size 0 m m cap1 a1 rfl rfl (fun j => .int .i32 (fb j)) ?c1 ?c2 ?c3 ?c4 ?_)
        case c1 => exact (HB'.out.below (alloc_bel wc _)).src
        case c2 => intro j hj; rw [Nat.zero_add, zr32_cell wc m j hj]; rfl
        case c3 => intro j hj; exact zr32_frozen wc m _
        case c4 => intro j hj; rfl
        intro w1 hw1
        have hb1 := hw1.below (alloc_bel wc _) (Nat.le_refl _)
        go_wp2
        go_meet
        case rel => exact ⟨_, _, rfl, hw1.sl (by simp), HA'.out.below hb1, hbel.trans (hb1.mono hbel.size)⟩
    case rest =>
      obtain ⟨b', d', rfl, HB2, HA2, hbel2⟩ := hcut
      go_wp2_with fail
      refine (osa_any a' b' n m c' d' fa fb _ (by omega) (by omega) HA2.out HB2.out).mono ?_
      rintro e w1 ⟨rfl, hb1⟩
      have HA3 : Hid (Sl w1 a' n fa) := HA2.out.below hb1
      have HB3 : Hid (Sl w1 b' m fb) := HB2.out.below hb1
      have hSD := Osa.S_eq_D (fun i j => fa i == fb j) n m
      have hT := Osa.turn_eq fa fb n m
      have HSD : Hid (Osa.S (fun i j => fa i == fb j) n m 0 0 = Osa.D (fun i j => fa i == fb j) n m) := hSD
      have HT : Hid (Osa.D (fun i j => fb i == fa j) m n = Osa.D (fun i j => fa i == fb j) n m) := hT
      clear hSD hT
      by_cases h3 : (3 : Int) < ((Osa.S (fun i j => fa i == fb j) n m 0 0 : Nat) : Int)
      · have e1 : (((min (Osa.D (fun i j => fa i == fb j) n m) 3 : Nat) : Int) == 3) = true := by
          rw [beq_iff_eq]; rw [HSD.out] at h3; omega
        have e2 : (((min (Osa.D (fun i j => fb i == fa j) m n) 3 : Nat) : Int) == 3) = true := by
          rw [beq_iff_eq, HT.out]; rw [HSD.out] at h3; omega
        go_wp2_with fail
        refine (zzedits_any a' b' n m c' d' fa fb w1 (by omega) (by omega) h1 h2 HA3.out HB3.out).mono ?_
        rintro e w2 ⟨rfl, hb2⟩
        have HA4 : Hid (Sl w2 a' n fa) := HA3.out.below hb2
        have HB4 : Hid (Sl w2 b' m fb) := HB3.out.below hb2
        go_wp2_with fail
        refine (zzedits_any b' a' m n d' c' fb fa w2 (by omega) (by omega) h2 h1 HB4.out HA4.out).mono ?_
        rintro e w3 ⟨rfl, hb3⟩
        go_wp2
        go_ret
        exact ⟨rfl, hbel2.trans ((hb1.mono hbel2.size).trans ((hb2.mono (Nat.le_trans hbel2.size hb1.size)).trans (hb3.mono (Nat.le_trans (Nat.le_trans hbel2.size hb1.size) hb2.size))))⟩
      · have e1 : (((min (Osa.D (fun i j => fa i == fb j) n m) 3 : Nat) : Int) == ((Osa.S (fun i j => fa i == fb j) n m 0 0 : Nat) : Int)) = true := by
          rw [beq_iff_eq]; rw [HSD.out] at *; omega
        have e2 : (((min (Osa.D (fun i j => fb i == fa j) m n) 3 : Nat) : Int) == ((Osa.S (fun i j => fa i == fb j) n m 0 0 : Nat) : Int)) = true := by
          rw [beq_iff_eq, HT.out]; rw [HSD.out] at *; omega
        go_wp2_with fail
        refine (zzedits_any a' b' n m c' d' fa fb w1 (by omega) (by omega) h1 h2 HA3.out HB3.out).mono ?_
        rintro e w2 ⟨rfl, hb2⟩
        have HA4 : Hid (Sl w2 a' n fa) := HA3.out.below hb2
        have HB4 : Hid (Sl w2 b' m fb) := HB3.out.below hb2
        go_wp2_with fail
        refine (zzedits_any b' a' m n d' c' fb fa w2 (by omega) (by omega) h2 h1 HB4.out HA4.out).mono ?_
        rintro e w3 ⟨rfl, hb3⟩
        go_wp2
        go_ret
        exact ⟨rfl, hbel2.trans ((hb1.mono hbel2.size).trans ((hb2.mono (Nat.le_trans hbel2.size hb1.size)).trans (hb3.mono (Nat.le_trans (Nat.le_trans hbel2.size hb1.size) hb2.size))))⟩

/-- The short ways: whatever the guards refuse answers true at once. -/
theorem capped_out (a0 : Option Addr) (n cap0 : Nat) (a1 : Option Addr) (m cap1 : Nat) (w : World) (hn : n ≤ maxLen) (hm : m ≤ maxLen) (h : ¬ (n ≤ 4096 ∧ m ≤ 4096 ∧ n ≤ m + 2 ∧ m ≤ n + 2)) :
    Calls Try.prog 3 #[.slice a0 n cap0, .slice a1 m cap1] w fun e w' => e = .returned (.bool true) ∧ Below w.heap.size w w' := by
  unfold maxLen at hn hm
  by_cases c1 : n ≤ 1048576
  · by_cases c2 : m ≤ 1048576
    · by_cases c3 : n + m ≤ 1048576
      · by_cases c4 : n ≤ 4096
        · by_cases c5 : m ≤ 4096
          · by_cases c6 : n ≤ m + 2
            · have c7 : ¬ (m ≤ n + 2) := fun c7 => h ⟨c4, c5, c6, c7⟩
              clear h
              go_enter Try.func3, Try.ntmps3
              go_wp2
              go_ret
              exact ⟨rfl, Below.refl _ _⟩
            · clear h
              go_enter Try.func3, Try.ntmps3
              go_wp2
              go_ret
              exact ⟨rfl, Below.refl _ _⟩
          · clear h
            go_enter Try.func3, Try.ntmps3
            go_wp2
            go_ret
            exact ⟨rfl, Below.refl _ _⟩
        · clear h
          go_enter Try.func3, Try.ntmps3
          go_wp2
          go_ret
          exact ⟨rfl, Below.refl _ _⟩
      · clear h
        go_enter Try.func3, Try.ntmps3
        go_wp2
        go_ret
        exact ⟨rfl, Below.refl _ _⟩
    · clear h
      go_enter Try.func3, Try.ntmps3
      go_wp2
      go_ret
      exact ⟨rfl, Below.refl _ _⟩
  · clear h
    go_enter Try.func3, Try.ntmps3
    go_wp2
    go_ret
    exact ⟨rfl, Below.refl _ _⟩
end Go.Proofs.Qxb6617844a
