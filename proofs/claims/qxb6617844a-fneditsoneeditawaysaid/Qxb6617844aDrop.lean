import Derived.Test.Qxb6617844aOneParts
namespace Go.Proofs.Qxb6617844a
open Go.RowKit

set_option maxRecDepth 100000 in
set_option maxHeartbeats 4000000 in
theorem one1 (a0 : Option Addr) (n cap0 : Nat) (fa : Nat → Int) (p : Nat) (r : Int) (w : World) (ha : Sl w a0 n fa) (hn : n ≤ 4096) (hcap : a0.isSome = false → cap0 = n) (hp : p < n) :
    Calls Try.prog 4 #[.slice a0 n cap0, .int .u8 1, .int .i64 p, .int .i32 r] w fun e w' => e = .returned (.bool true) ∧ Below w.heap.size w w' := by
  have hq := fun (w : World) (a : Option Addr) (n c : Nat) => run_neq_slice_nil_any (P := Try.prog) w 22 21 a n c 0 0 Try.underlying22
  have hmk0 := make22 n n (Nat.le_refl _) (by omega)
  have hmkb := makeb n hn
  have HA : Hid (Sl w a0 n fa) := ha
  have HC : Hid (a0.isSome = false → cap0 = n) := hcap
  clear ha hcap
  go_enter Try.func4, Try.ntmps4
  go_upto_if 50 with go_in
  go_cut [0, 9] (fun s0 _ wc => ∃ a', s0 = .slice a' n n ∧ Hid (Sl wc a' n fa) ∧ Below w.heap.size w wc)
  case first =>
    cases ha : a0.isSome with
    | false =>
      go_wp2
      go_meet
      case rel => exact ⟨a0, by rw [HC.out ha], HA, Below.refl _ _⟩
    | true =>
      go_wp2_with (refine wpList_copy_moved rfl (.tmp 54) (.tmp 55) 22 22 rfl 21 Try.underlying22 size21 w.heap.size 0 n n cap0 a0 rfl rfl (fun j => .int .i32 (fa j)) ?c1 ?c2 ?c3 ?c4 ?_)
      case c1 => exact (HA.out.below (alloc_bel w _)).src
      case c2 => intro j hj; rw [Nat.zero_add, zr32_cell w n j hj]; rfl
      case c3 => intro j hj; exact zr32_frozen w n _
      case c4 => intro j hj; rfl
      intro w1 hw1
      go_wp2
      go_meet
      case rel => exact ⟨_, rfl, hw1.sl (by simp), hw1.below (alloc_bel w _) (Nat.le_refl _)⟩
  case rest =>
    obtain ⟨a', rfl, HA', hbel⟩ := hcut
    obtain ⟨i0, hi, hz0, hz1, hz2⟩ := info_parts info21
    have B0 : Hid (Bw (wc.alloc (zr32 (n + 1))) wc.heap.size 0 (n + 1) fa) := Bw.start wc (n + 1) fa
    have A0 : Hid (Sl (wc.alloc (zr32 (n + 1))) a' n fa) := HA'.out.below (alloc_bel wc _)
    have hN : ∀ b q, a' = some ⟨b, q, none⟩ → 0 < n → b ≠ wc.heap.size := by
      intro b q e h0
      obtain ⟨b2, q2, e2, hlt, _⟩ := HA'.out h0
      rw [e] at e2; cases e2; omega
    have HN : Hid (∀ b q, a' = some ⟨b, q, none⟩ → 0 < n → b ≠ wc.heap.size) := hN
    clear hN
    go_wp2_with (at_builtin; go_must (refine wpList_append_moved rfl (.tmp 80) (.tmp 83) 22 rfl 21 i0 Try.underlying22 hi hz1 wc.heap.size 0 0 p (n + 1) _ _ rfl rfl ?c0 (fun j => .int .i32 (fa j)) ?c1 ?c2 ?c3 ?c4 ?_))
    case c0 => omega
    case c1 =>
      have := A0.out.cut 0 p (by omega) (sp := a') (fun _ b q e => e)
      simpa using this
    case c2 => intro j hj; exact B0.out.room _ (by omega)
    case c3 => intro j hj; exact B0.out.frozen _
    case c4 => intro j hj; rfl
    intro w1 hw1
    have B1 : Hid (Bw w1 wc.heap.size (0 + p) (n + 1) (glue fa fa 0)) := B0.out.moved hw1 rfl
    have A1 : Hid (Sl w1 a' n fa) := A0.out.moved hw1 HN.out
    have E1 : Hid (Below w.heap.size w w1) := hw1.below (hbel.trans ((alloc_bel wc _).mono hbel.size)) hbel.size
    clear hw1
    rw [Nat.zero_add] at B1
    obtain ⟨m, hm⟩ : ∃ m, n = m + 1 := ⟨n - 1, by omega⟩
    by_cases hpn : n = p + 1
    · clear hm
      subst hpn
      go_wp2_with (at_builtin; go_must (refine wpList_append_moved rfl (.tmp 85) (.tmp 89) 22 rfl 21 i0 Try.underlying22 hi hz1 wc.heap.size 0 p 0 ((p + 1) + 1) _ _ rfl rfl (by omega) (fun j => .int .i32 (fa (p + 1 + j))) (fun h => absurd h (Nat.lt_irrefl 0)) (fun j hj => absurd hj (Nat.not_lt_zero j)) (fun j hj => absurd hj (Nat.not_lt_zero j)) (fun j hj => absurd hj (Nat.not_lt_zero j)) ?_))
      intro w3 hw3
      have B4 : Bw w3 wc.heap.size p ((p + 1) + 1) (glue (glue fa fa 0) (fun j => fa (p + 1 + j)) p) := B1.out.moved hw3 (by omega)
      have A4 : Hid (Sl w3 a' (p + 1) fa) := A1.out.moved hw3 HN.out
      have E4 : Hid (Below w.heap.size w w3) := hw3.below E1.out hbel.size
      clear hw3
      obtain ⟨fb, hfb⟩ : ∃ fb, fb = glue (glue fa fa 0) (fun j => fa (p + 1 + j)) p := ⟨_, rfl⟩
      rw [← hfb] at B4
      have hD := law_out fa fb p p (by omega) (fun j hj => by rw [hfb]; unfold glue; rw [if_pos hj, if_neg (by omega)]; rfl)
        (fun j h1 h2 => by rw [hfb]; unfold glue; rw [if_neg (by omega)]; show fa (p + 1 + (j - p)) = fa (j + 1); rw [show p + 1 + (j - p) = j + 1 from by omega])
      have S4 : Hid (Sl w3 (some ⟨wc.heap.size, 0, none⟩) p fb) := B4.sl
      have e1 : (((min (Osa.D (fun i j => fa i == fb j) (p + 1) p) 3 : Nat) : Int) == 1) = true := by rw [hD]; rfl
      have e2 : (((min (Osa.D (fun i j => fb i == fa j) p (p + 1)) 3 : Nat) : Int) == 1) = true := by rw [Osa.turn_eq, hD]; rfl
      clear hD hfb B4
      go_wp2_with fail
      refine (zzedits_any a' (some ⟨wc.heap.size, 0, none⟩) (p + 1) p (p + 1) ((p + 1) + 1) fa fb w3 (by omega) (by omega) (by omega) (by omega) A4.out S4.out).mono ?_
      rintro e w4 ⟨rfl, hb4⟩
      have A5 : Hid (Sl w4 a' (p + 1) fa) := A4.out.below hb4
      have S5 : Hid (Sl w4 (some ⟨wc.heap.size, 0, none⟩) p fb) := S4.out.below hb4
      go_wp2_with fail
      refine (zzedits_any (some ⟨wc.heap.size, 0, none⟩) a' p (p + 1) ((p + 1) + 1) (p + 1) fb fa w4 (by omega) (by omega) (by omega) (by omega) S5.out A5.out).mono ?_
      rintro e w5 ⟨rfl, hb5⟩
      go_wp2
      go_ret
      exact ⟨rfl, E4.out.trans ((hb4.mono E4.out.size).trans (hb5.mono (Nat.le_trans E4.out.size hb4.size)))⟩
    · clear hm
      have hpn' : (n == p + 1) = false := by rw [beq_eq_false_iff_ne]; exact hpn
      go_wp2_with (at_builtin; go_must (refine wpList_append_moved rfl (.tmp 85) (.tmp 89) 22 rfl 21 i0 Try.underlying22 hi hz1 wc.heap.size 0 p (n - (p + 1)) (n + 1) _ _ rfl rfl ?d0 (fun j => .int .i32 (fa (p + 1 + j))) ?d1 ?d2 ?d3 ?d4 ?_))
      case d0 => omega
      case d1 => exact A1.out.cut (p + 1) (n - (p + 1)) (by omega) (fun _ b q e => by rw [e]; simp)
      case d2 => intro j hj; exact B1.out.room _ (by omega)
      case d3 => intro j hj; exact B1.out.frozen _
      case d4 => intro j hj; rfl
      intro w3 hw3
      have B4 : Bw w3 wc.heap.size (p + (n - (p + 1))) (n + 1) (glue (glue fa fa 0) (fun j => fa (p + 1 + j)) p) := B1.out.moved hw3 (by omega)
      have A4 : Hid (Sl w3 a' n fa) := A1.out.moved hw3 HN.out
      have E4 : Hid (Below w.heap.size w w3) := hw3.below E1.out hbel.size
      clear hw3
      obtain ⟨fb, hfb⟩ : ∃ fb, fb = glue (glue fa fa 0) (fun j => fa (p + 1 + j)) p := ⟨_, rfl⟩
      rw [← hfb] at B4
      have hD := law_out fa fb (p + (n - (p + 1))) p (by omega) (fun j hj => by rw [hfb]; unfold glue; rw [if_pos hj, if_neg (by omega)]; rfl)
        (fun j h1 h2 => by rw [hfb]; unfold glue; rw [if_neg (by omega)]; show fa (p + 1 + (j - p)) = fa (j + 1); rw [show p + 1 + (j - p) = j + 1 from by omega])
      rw [show p + (n - (p + 1)) + 1 = n from by omega] at hD
      have S4 : Hid (Sl w3 (some ⟨wc.heap.size, 0, none⟩) (p + (n - (p + 1))) fb) := B4.sl
      have e1 : (((min (Osa.D (fun i j => fa i == fb j) n (p + (n - (p + 1)))) 3 : Nat) : Int) == 1) = true := by rw [hD]; rfl
      have e2 : (((min (Osa.D (fun i j => fb i == fa j) (p + (n - (p + 1))) n) 3 : Nat) : Int) == 1) = true := by rw [Osa.turn_eq, hD]; rfl
      clear hD hfb B4
      go_wp2_with fail
      refine (zzedits_any a' (some ⟨wc.heap.size, 0, none⟩) n (p + (n - (p + 1))) n (n + 1) fa fb w3 (by omega) (by omega) (by omega) (by omega) A4.out S4.out).mono ?_
      rintro e w4 ⟨rfl, hb4⟩
      have A5 : Hid (Sl w4 a' n fa) := A4.out.below hb4
      have S5 : Hid (Sl w4 (some ⟨wc.heap.size, 0, none⟩) (p + (n - (p + 1))) fb) := S4.out.below hb4
      go_wp2_with fail
      refine (zzedits_any (some ⟨wc.heap.size, 0, none⟩) a' (p + (n - (p + 1))) n (n + 1) n fb fa w4 (by omega) (by omega) (by omega) (by omega) S5.out A5.out).mono ?_
      rintro e w5 ⟨rfl, hb5⟩
      go_wp2
      go_ret
      exact ⟨rfl, E4.out.trans ((hb4.mono E4.out.size).trans (hb5.mono (Nat.le_trans E4.out.size hb4.size)))⟩
end Go.Proofs.Qxb6617844a
