import Derived.Test.Qxb6617844aOneParts
import Derived.BigQuiet
import Derived.Deep.QuietTactic
namespace Go.Proofs.Qxb6617844a
open Go.RowKit

set_option maxRecDepth 100000 in
set_option maxHeartbeats 4000000 in
theorem one3 (a0 : Option Addr) (n cap0 : Nat) (fa : Nat → Int) (p : Nat) (r : Int) (w : World) (ha : Sl w a0 n fa) (hn : n ≤ 4096) (hcap : a0.isSome = false → cap0 = n) (hp : p + 1 < n) :
    Calls Try.prog 4 #[.slice a0 n cap0, .int .u8 3, .int .i64 p, .int .i32 r] w fun e w' => e = .returned (.bool true) ∧ Below w.heap.size w w' := by
  have hq := fun (w : World) (a : Option Addr) (n c : Nat) => run_neq_slice_nil_any (P := Try.prog) w 22 21 a n c 0 0 Try.underlying22
  have hmk0 := make22 n n (Nat.le_refl _) (by omega)
  have hmkb := makeb n hn
  have HA : Hid (Sl w a0 n fa) := ha
  have HC : Hid (a0.isSome = false → cap0 = n) := hcap
  clear ha hcap
  go_enter Try.func4, Try.ntmps4
  go_upto_if 50 with go_in
  go_cut [0, 9] (fun s0 _ wc => ∃ a', s0 = .slice a' n n ∧ Hid (Sl wc a' n fa) ∧ Below w.heap.size w wc)
  case first =>
    cases ha : a0.isSome with
    | false =>
      go_wp2
      go_meet
      case rel => exact ⟨a0, by rw [HC.out ha], HA, Below.refl _ _⟩
    | true =>
      go_wp2_with (refine wpList_copy_moved rfl (.tmp 54) (.tmp 55) 22 22 rfl 21 Try.underlying22 size21 w.heap.size 0 n n cap0 a0 rfl rfl (fun j => .int .i32 (fa j)) ?c1 ?c2 ?c3 ?c4 ?_)
      case c1 => exact (HA.out.below (alloc_bel w _)).src
      case c2 => intro j hj; rw [Nat.zero_add, zr32_cell w n j hj]; rfl
      case c3 => intro j hj; exact zr32_frozen w n _
      case c4 => intro j hj; rfl
      intro w1 hw1
      go_wp2
      go_meet
      case rel => exact ⟨_, rfl, hw1.sl (by simp), hw1.below (alloc_bel w _) (Nat.le_refl _)⟩
  case rest =>
    obtain ⟨a', rfl, HA', hbel⟩ := hcut
    obtain ⟨i0, hi, hz0, hz1, hz2⟩ := info_parts info21
    have B0 : Hid (Bw (wc.alloc (zr32 (n + 1))) wc.heap.size 0 (n + 1) fa) := Bw.start wc (n + 1) fa
    have A0 : Hid (Sl (wc.alloc (zr32 (n + 1))) a' n fa) := HA'.out.below (alloc_bel wc _)
    have hN : ∀ b q, a' = some ⟨b, q, none⟩ → 0 < n → b ≠ wc.heap.size := by
      intro b q e h0
      obtain ⟨b2, q2, e2, hlt, _⟩ := HA'.out h0
      rw [e] at e2; cases e2; omega
    have HN : Hid (∀ b q, a' = some ⟨b, q, none⟩ → 0 < n → b ≠ wc.heap.size) := hN
    clear hN
    go_wp2_with (at_builtin; go_must (refine wpList_append_moved rfl (.tmp 91) (.tmp 92) 22 rfl 21 i0 Try.underlying22 hi hz1 wc.heap.size 0 0 n (n + 1) _ _ rfl rfl ?c0 (fun j => .int .i32 (fa j)) ?c1 ?c2 ?c3 ?c4 ?_))
    case c0 => omega
    case c1 => exact A0.out.src
    case c2 => intro j hj; exact B0.out.room _ (by omega)
    case c3 => intro j hj; exact B0.out.frozen _
    case c4 => intro j hj; rfl
    intro w1 hw1
    have B1 : Bw w1 wc.heap.size (0 + n) (n + 1) (glue fa fa 0) := B0.out.moved hw1 rfl
    have A1 : Hid (Sl w1 a' n fa) := A0.out.moved hw1 HN.out
    have E1 : Hid (Below w.heap.size w w1) := hw1.below (hbel.trans ((alloc_bel wc _).mono hbel.size)) hbel.size
    rw [Nat.zero_add] at B1
    have g0 : ∀ j, glue fa fa 0 j = fa j := fun j => by unfold glue; rw [if_neg (by omega)]; rfl
    have cb := B1.part p (by omega)
    have fz := B1.frozen p
    obtain ⟨ba, qa, rfl, hba, hca⟩ := A1.out (by omega)
    have ca := hca p (by omega)
    have G0 : Hid (∀ j, glue fa fa 0 j = fa j) := g0
    have B2 : Hid (Bw w1 wc.heap.size n (n + 1) (glue fa fa 0)) := B1
    have hne : ba ≠ wc.heap.size := HN.out _ _ rfl (by omega)
    have ca1 := hca (p + 1) (by omega)
    have cb1 := B1.part (p + 1) (by omega)
    have fz1 := B1.frozen (p + 1)
    clear g0 hca hw1
    have t0 : (w1.setCell ⟨wc.heap.size, p, none⟩ (.int .i32 (fa (p + 1)))).cell? ⟨ba, qa + p, none⟩ = some (.int .i32 (fa p)) := by
      rw [World.cell?_setCell_other _ _ _ _ (fun h => hne (congrArg Addr.block h).symm)]; exact ca
    have t1 : ((w1.setCell ⟨wc.heap.size, p, none⟩ (.int .i32 (fa (p + 1)))).setCell ⟨wc.heap.size, p + 1, none⟩ (.int .i32 (fa p))).cell? ⟨ba, qa + p, none⟩ = some (.int .i32 (fa p)) := by
      rw [World.cell?_setCell_other _ _ _ _ (fun h => hne (congrArg Addr.block h).symm)]; exact t0
    have t2 : ((w1.setCell ⟨wc.heap.size, p, none⟩ (.int .i32 (fa (p + 1)))).setCell ⟨wc.heap.size, p + 1, none⟩ (.int .i32 (fa p))).cell? ⟨ba, qa + (p + 1), none⟩ = some (.int .i32 (fa (p + 1))) := by
      rw [World.cell?_setCell_other _ _ _ _ (fun h => hne (congrArg Addr.block h).symm), World.cell?_setCell_other _ _ _ _ (fun h => hne (congrArg Addr.block h).symm)]; exact ca1
    obtain ⟨fb, hfb⟩ : ∃ fb, fb = upd (upd (glue fa fa 0) p (fa (p + 1))) (p + 1) (fa p) := ⟨_, rfl⟩
    have B3 := (B2.out.set p (by omega) (fa (p + 1))).set (p + 1) hp (fa p)
    rw [← hfb] at B3
    have S3 : Hid (Sl ((w1.setCell ⟨wc.heap.size, p, none⟩ (.int .i32 (fa (p + 1)))).setCell ⟨wc.heap.size, p + 1, none⟩ (.int .i32 (fa p))) (some ⟨wc.heap.size, 0, none⟩) n fb) := B3.sl
    have A3 : Hid (Sl ((w1.setCell ⟨wc.heap.size, p, none⟩ (.int .i32 (fa (p + 1)))).setCell ⟨wc.heap.size, p + 1, none⟩ (.int .i32 (fa p))) (some ⟨ba, qa, none⟩) n fa) := (A1.out.set HN.out).set HN.out
    have E3 : Hid (Below w.heap.size w ((w1.setCell ⟨wc.heap.size, p, none⟩ (.int .i32 (fa (p + 1)))).setCell ⟨wc.heap.size, p + 1, none⟩ (.int .i32 (fa p)))) := (E1.out.setCell hbel.size _).setCell hbel.size _
    have v0 : ∀ j, j < n → j ≠ p → j ≠ p + 1 → fb j = fa j := fun j _ h1 h2 => by rw [hfb]; unfold upd; rw [if_neg h2, if_neg h1]; exact G0.out j
    have v1 : fb p = fa (p + 1) := by rw [hfb]; unfold upd; rw [if_neg (by omega), if_pos rfl]
    have v2 : fb (p + 1) = fa p := by rw [hfb]; unfold upd; rw [if_pos rfl]
    clear B1 B3 hfb
    by_cases hd : fa p = fa (p + 1)
    · have hd' : (fa p != fa (p + 1)) = false := by simpa using hd
      have hD := law_same fa fb n (fun j hj => by
        by_cases e : j = p
        · rw [e, v1, hd]
        · by_cases e2 : j = p + 1
          · rw [e2, v2, hd]
          · exact v0 j hj e e2)
      have e1 : (((min (Osa.D (fun i j => fa i == fb j) n n) 3 : Nat) : Int) == 0) = true := by rw [hD]; rfl
      have e2 : (((min (Osa.D (fun i j => fb i == fa j) n n) 3 : Nat) : Int) == 0) = true := by rw [Osa.turn_eq, hD]; rfl
      clear hD v0 v1 v2 hd
      go_wp2
      go_quiet (fail)
      have S4 : Hid (Sl (((w1.setCell ⟨wc.heap.size, p, none⟩ (.int .i32 (fa (p + 1)))).setCell ⟨wc.heap.size, p + 1, none⟩ (.int .i32 (fa p))).drewN nq) (some ⟨wc.heap.size, 0, none⟩) n fb) := S3
      have A4 : Hid (Sl (((w1.setCell ⟨wc.heap.size, p, none⟩ (.int .i32 (fa (p + 1)))).setCell ⟨wc.heap.size, p + 1, none⟩ (.int .i32 (fa p))).drewN nq) (some ⟨ba, qa, none⟩) n fa) := A3
      have E4 : Hid (Below w.heap.size w (((w1.setCell ⟨wc.heap.size, p, none⟩ (.int .i32 (fa (p + 1)))).setCell ⟨wc.heap.size, p + 1, none⟩ (.int .i32 (fa p))).drewN nq)) := below_drewN E3.out nq
      go_wp2_with fail
      refine (zzedits_any (some ⟨ba, qa, none⟩) (some ⟨wc.heap.size, 0, none⟩) n n n (n + 1) fa fb _ (by omega) (by omega) (by omega) (by omega) A4.out S4.out).mono ?_
      rintro e w4 ⟨rfl, hb4⟩
      have A5 : Hid (Sl w4 (some ⟨ba, qa, none⟩) n fa) := A4.out.below hb4
      have S5 : Hid (Sl w4 (some ⟨wc.heap.size, 0, none⟩) n fb) := S4.out.below hb4
      go_wp2_with fail
      refine (zzedits_any (some ⟨wc.heap.size, 0, none⟩) (some ⟨ba, qa, none⟩) n n (n + 1) n fb fa w4 (by omega) (by omega) (by omega) (by omega) S5.out A5.out).mono ?_
      rintro e w5 ⟨rfl, hb5⟩
      go_wp2
      go_ret
      exact ⟨rfl, E4.out.trans ((hb4.mono E4.out.size).trans (hb5.mono (Nat.le_trans E4.out.size hb4.size)))⟩
    · have hd' : (fa p != fa (p + 1)) = true := by simpa using hd
      have hD := law_swap fa fb n p hp v0 v1 v2 hd
      have e1 : (((min (Osa.D (fun i j => fa i == fb j) n n) 3 : Nat) : Int) == 1) = true := by rw [hD]; rfl
      have e2 : (((min (Osa.D (fun i j => fb i == fa j) n n) 3 : Nat) : Int) == 1) = true := by rw [Osa.turn_eq, hD]; rfl
      clear hD v0 v1 v2 hd
      go_wp2
      go_quiet (fail)
      have S4 : Hid (Sl (((w1.setCell ⟨wc.heap.size, p, none⟩ (.int .i32 (fa (p + 1)))).setCell ⟨wc.heap.size, p + 1, none⟩ (.int .i32 (fa p))).drewN nq) (some ⟨wc.heap.size, 0, none⟩) n fb) := S3
      have A4 : Hid (Sl (((w1.setCell ⟨wc.heap.size, p, none⟩ (.int .i32 (fa (p + 1)))).setCell ⟨wc.heap.size, p + 1, none⟩ (.int .i32 (fa p))).drewN nq) (some ⟨ba, qa, none⟩) n fa) := A3
      have E4 : Hid (Below w.heap.size w (((w1.setCell ⟨wc.heap.size, p, none⟩ (.int .i32 (fa (p + 1)))).setCell ⟨wc.heap.size, p + 1, none⟩ (.int .i32 (fa p))).drewN nq)) := below_drewN E3.out nq
      go_wp2_with fail
      refine (zzedits_any (some ⟨ba, qa, none⟩) (some ⟨wc.heap.size, 0, none⟩) n n n (n + 1) fa fb _ (by omega) (by omega) (by omega) (by omega) A4.out S4.out).mono ?_
      rintro e w4 ⟨rfl, hb4⟩
      have A5 : Hid (Sl w4 (some ⟨ba, qa, none⟩) n fa) := A4.out.below hb4
      have S5 : Hid (Sl w4 (some ⟨wc.heap.size, 0, none⟩) n fb) := S4.out.below hb4
      go_wp2_with fail
      refine (zzedits_any (some ⟨wc.heap.size, 0, none⟩) (some ⟨ba, qa, none⟩) n n (n + 1) n fb fa w4 (by omega) (by omega) (by omega) (by omega) S5.out A5.out).mono ?_
      rintro e w5 ⟨rfl, hb5⟩
      go_wp2
      go_ret
      exact ⟨rfl, E4.out.trans ((hb4.mono E4.out.size).trans (hb5.mono (Nat.le_trans E4.out.size hb4.size)))⟩
end Go.Proofs.Qxb6617844a
