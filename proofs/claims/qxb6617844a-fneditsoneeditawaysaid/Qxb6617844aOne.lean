import Derived.Test.Qxb6617844aOneParts
namespace Go.Proofs.Qxb6617844a
open Go.RowKit

set_option maxRecDepth 100000 in
set_option maxHeartbeats 4000000 in
theorem one0 (a0 : Option Addr) (n cap0 : Nat) (fa : Nat → Int) (p : Nat) (r : Int) (w : World) (ha : Sl w a0 n fa) (hn : n ≤ 4096) (hcap : a0.isSome = false → cap0 = n) (hp : p ≤ n) :
    Calls Try.prog 4 #[.slice a0 n cap0, .int .u8 0, .int .i64 p, .int .i32 r] w fun e w' => e = .returned (.bool true) ∧ Below w.heap.size w w' := by
  have hq := fun (w : World) (a : Option Addr) (n c : Nat) => run_neq_slice_nil_any (P := Try.prog) w 22 21 a n c 0 0 Try.underlying22
  have hmk0 := make22 n n (Nat.le_refl _) (by omega)
  have hmkb := makeb n hn
  have HA : Hid (Sl w a0 n fa) := ha
  have HC : Hid (a0.isSome = false → cap0 = n) := hcap
  clear ha hcap
  go_enter Try.func4, Try.ntmps4
  go_upto_if 50 with go_in
  go_cut [0, 9] (fun s0 _ wc => ∃ a', s0 = .slice a' n n ∧ Hid (Sl wc a' n fa) ∧ Below w.heap.size w wc)
  case first =>
    cases ha : a0.isSome with
    | false =>
      go_wp2
      go_meet
      case rel => exact ⟨a0, by rw [HC.out ha], HA, Below.refl _ _⟩
    | true =>
      go_wp2_with (refine wpList_copy_moved rfl (.tmp 54) (.tmp 55) 22 22 rfl 21 Try.underlying22 size21 w.heap.size 0 n n cap0 a0 rfl rfl (fun j => .int .i32 (fa j)) ?c1 ?c2 ?c3 ?c4 ?_)
      case c1 => exact (HA.out.below (alloc_bel w _)).src
      case c2 => intro j hj; rw [Nat.zero_add, zr32_cell w n j hj]; rfl
      case c3 => intro j hj; exact zr32_frozen w n _
      case c4 => intro j hj; rfl
      intro w1 hw1
      go_wp2
      go_meet
      case rel => exact ⟨_, rfl, hw1.sl (by simp), hw1.below (alloc_bel w _) (Nat.le_refl _)⟩
  case rest =>
    obtain ⟨a', rfl, HA', hbel⟩ := hcut
    obtain ⟨i0, hi, hz0, hz1, hz2⟩ := info_parts info21
    have B0 : Hid (Bw (wc.alloc (zr32 (n + 1))) wc.heap.size 0 (n + 1) fa) := Bw.start wc (n + 1) fa
    have A0 : Hid (Sl (wc.alloc (zr32 (n + 1))) a' n fa) := HA'.out.below (alloc_bel wc _)
    go_wp2_with (at_builtin; go_must (refine wpList_append_moved rfl (.tmp 64) (.tmp 67) 22 rfl 21 i0 Try.underlying22 hi hz1 wc.heap.size 0 0 p (n + 1) _ _ rfl rfl ?c0 (fun j => .int .i32 (fa j)) ?c1 ?c2 ?c3 ?c4 ?_))
    case c0 => omega
    case c1 =>
      have := A0.out.cut 0 p (by omega) (sp := a') (fun _ b q e => e)
      simpa using this
    case c2 => intro j hj; exact B0.out.room _ (by omega)
    case c3 => intro j hj; exact B0.out.frozen _
    case c4 => intro j hj; rfl
    intro w1 hw1
    have hN : ∀ b q, a' = some ⟨b, q, none⟩ → 0 < n → b ≠ wc.heap.size := by
      intro b q e h0
      obtain ⟨b2, q2, e2, hlt, _⟩ := HA'.out h0
      rw [e] at e2; cases e2; omega
    have B1 : Hid (Bw w1 wc.heap.size (0 + p) (n + 1) (glue fa fa 0)) := B0.out.moved hw1 rfl
    have A1 : Hid (Sl w1 a' n fa) := A0.out.moved hw1 hN
    have E1 : Hid (Below w.heap.size w w1) := hw1.below (hbel.trans ((alloc_bel wc _).mono hbel.size)) hbel.size
    have HN : Hid (∀ b q, a' = some ⟨b, q, none⟩ → 0 < n → b ≠ wc.heap.size) := hN
    have hlt1 : wc.heap.size < w1.heap.size := B1.out.lt
    clear hN hw1
    rw [Nat.zero_add] at B1
    have B2 : Hid (Bw (w1.alloc (.cells #[.int .i32 r] 21)) wc.heap.size p (n + 1) (glue fa fa 0)) := by
      refine ⟨by simp; omega, fun j hj => ?_, fun j hj => ?_, fun j => ?_⟩
      · rw [World.cell?_alloc_past _ _ _ hlt1]; exact B1.out.part j hj
      · rw [World.cell?_alloc_past _ _ _ hlt1]; exact B1.out.room j hj
      · rw [World.frozen?_alloc_past _ _ _ hlt1]; exact B1.out.frozen j
    have A2 : Hid (Sl (w1.alloc (.cells #[.int .i32 r] 21)) a' n fa) := A1.out.below (alloc_bel w1 _)
    go_wp2_with (at_builtin; go_must (refine wpList_append_moved rfl (.tmp 69) (.tmp 71) 22 rfl 21 i0 Try.underlying22 hi hz1 wc.heap.size 0 p 1 (n + 1) _ _ rfl rfl ?c0 (fun _ => .int .i32 r) ?c1 ?c2 ?c3 ?c4 ?_))
    case c0 => omega
    case c1 => exact fun _ => ⟨_, _, rfl, fun j hj => by rw [World.cell?_alloc_at _ _ _ _ rfl, show 0 + j = 0 from by omega]; rfl⟩
    case c2 => intro j hj; exact B2.out.room _ (by omega)
    case c3 => intro j hj; exact B2.out.frozen _
    case c4 => intro j hj; rfl
    intro w2 hw2
    have B3 : Hid (Bw w2 wc.heap.size (p + 1) (n + 1) (glue (glue fa fa 0) (fun _ => r) p)) := B2.out.moved hw2 (by omega)
    have A3 : Hid (Sl w2 a' n fa) := A2.out.moved hw2 HN.out
    have E3 : Hid (Below w.heap.size w w2) := hw2.below (E1.out.trans ((alloc_bel w1 _).mono E1.out.size)) hbel.size
    clear hw2
    by_cases hpn : n = p
    · obtain rfl : p = n := hpn.symm
      go_wp2_with (at_builtin; go_must (refine wpList_append_moved rfl (.tmp 73) (.tmp 76) 22 rfl 21 i0 Try.underlying22 hi hz1 wc.heap.size 0 (p + 1) 0 (p + 1) _ _ rfl rfl (Nat.le_refl _) (fun j => .int .i32 (fa (p + j))) (fun h => absurd h (Nat.lt_irrefl 0)) (fun j hj => absurd hj (Nat.not_lt_zero j)) (fun j hj => absurd hj (Nat.not_lt_zero j)) (fun j hj => absurd hj (Nat.not_lt_zero j)) ?_))
      intro w3 hw3
      have B4 : Bw w3 wc.heap.size (p + 1 + 0) (p + 1) (glue (glue (glue fa fa 0) (fun _ => r) p) (fun j => fa (p + j)) (p + 1)) := B3.out.moved hw3 (by omega)
      have A4 : Hid (Sl w3 a' p fa) := A3.out.moved hw3 HN.out
      have E4 : Hid (Below w.heap.size w w3) := hw3.below E3.out hbel.size
      clear hw3
      obtain ⟨fb, hfb⟩ : ∃ fb, fb = glue (glue (glue fa fa 0) (fun _ => r) p) (fun j => fa (p + j)) (p + 1) := ⟨_, rfl⟩
      rw [← hfb, show p + 1 + 0 = p + 1 from by omega] at B4
      have hD := law_in fa fb p p hp (fun j hj => by rw [hfb]; unfold glue; rw [if_pos (by omega), if_pos hj, if_neg (by omega)]; rfl)
        (fun j h1 h2 => by rw [hfb]; unfold glue; rw [if_neg (by omega)]; show fa (p + (j + 1 - (p + 1))) = fa j; rw [show p + (j + 1 - (p + 1)) = j from by omega])
      have S4 : Hid (Sl w3 (some ⟨wc.heap.size, 0, none⟩) (p + 1) fb) := B4.sl
      have e1 : (((min (Osa.D (fun i j => fa i == fb j) p (p + 1)) 3 : Nat) : Int) == 1) = true := by rw [hD]; rfl
      have e2 : (((min (Osa.D (fun i j => fb i == fa j) (p + 1) p) 3 : Nat) : Int) == 1) = true := by rw [Osa.turn_eq, hD]; rfl
      clear hD hfb B4
      go_wp2_with fail
      refine (zzedits_any a' (some ⟨wc.heap.size, 0, none⟩) p (p + 1) p (p + 1) fa fb w3 (by omega) (by omega) (by omega) (by omega) A4.out S4.out).mono ?_
      rintro e w4 ⟨rfl, hb4⟩
      have A5 : Hid (Sl w4 a' p fa) := A4.out.below hb4
      have S5 : Hid (Sl w4 (some ⟨wc.heap.size, 0, none⟩) (p + 1) fb) := S4.out.below hb4
      go_wp2_with fail
      refine (zzedits_any (some ⟨wc.heap.size, 0, none⟩) a' (p + 1) p (p + 1) p fb fa w4 (by omega) (by omega) (by omega) (by omega) S5.out A5.out).mono ?_
      rintro e w5 ⟨rfl, hb5⟩
      go_wp2
      go_ret
      exact ⟨rfl, E4.out.trans ((hb4.mono E4.out.size).trans (hb5.mono (Nat.le_trans E4.out.size hb4.size)))⟩
    · have hpn' : (n == p) = false := by rw [beq_eq_false_iff_ne]; exact hpn
      go_wp2_with (at_builtin; go_must (refine wpList_append_moved rfl (.tmp 73) (.tmp 76) 22 rfl 21 i0 Try.underlying22 hi hz1 wc.heap.size 0 (p + 1) (n - p) (n + 1) _ _ rfl rfl ?d0 (fun j => .int .i32 (fa (p + j))) ?d1 ?d2 ?d3 ?d4 ?_))
      case d0 => omega
      case d1 => exact A3.out.cut p (n - p) (by omega) (fun _ b q e => by rw [e]; simp [Addr.add_lit])
      case d2 => intro j hj; exact B3.out.room _ (by omega)
      case d3 => intro j hj; exact B3.out.frozen _
      case d4 => intro j hj; rfl
      intro w3 hw3
      have B4 : Bw w3 wc.heap.size (p + 1 + (n - p)) (n + 1) (glue (glue (glue fa fa 0) (fun _ => r) p) (fun j => fa (p + j)) (p + 1)) := B3.out.moved hw3 (by omega)
      have A4 : Hid (Sl w3 a' n fa) := A3.out.moved hw3 HN.out
      have E4 : Hid (Below w.heap.size w w3) := hw3.below E3.out hbel.size
      clear hw3
      obtain ⟨fb, hfb⟩ : ∃ fb, fb = glue (glue (glue fa fa 0) (fun _ => r) p) (fun j => fa (p + j)) (p + 1) := ⟨_, rfl⟩
      rw [← hfb, show p + 1 + (n - p) = n + 1 from by omega] at B4
      have hD := law_in fa fb n p hp (fun j hj => by rw [hfb]; unfold glue; rw [if_pos (by omega), if_pos hj, if_neg (by omega)]; rfl)
        (fun j h1 h2 => by rw [hfb]; unfold glue; rw [if_neg (by omega)]; show fa (p + (j + 1 - (p + 1))) = fa j; rw [show p + (j + 1 - (p + 1)) = j from by omega])
      have S4 : Hid (Sl w3 (some ⟨wc.heap.size, 0, none⟩) (n + 1) fb) := B4.sl
      have e1 : (((min (Osa.D (fun i j => fa i == fb j) n (n + 1)) 3 : Nat) : Int) == 1) = true := by rw [hD]; rfl
      have e2 : (((min (Osa.D (fun i j => fb i == fa j) (n + 1) n) 3 : Nat) : Int) == 1) = true := by rw [Osa.turn_eq, hD]; rfl
      clear hD hfb B4
      rw [show p + 1 + (n - p) = n + 1 from by omega]
      go_wp2_with fail
      refine (zzedits_any a' (some ⟨wc.heap.size, 0, none⟩) n (n + 1) n (n + 1) fa fb w3 (by omega) (by omega) (by omega) (by omega) A4.out S4.out).mono ?_
      rintro e w4 ⟨rfl, hb4⟩
      have A5 : Hid (Sl w4 a' n fa) := A4.out.below hb4
      have S5 : Hid (Sl w4 (some ⟨wc.heap.size, 0, none⟩) (n + 1) fb) := S4.out.below hb4
      go_wp2_with fail
      refine (zzedits_any (some ⟨wc.heap.size, 0, none⟩) a' (n + 1) n (n + 1) n fb fa w4 (by omega) (by omega) (by omega) (by omega) S5.out A5.out).mono ?_
      rintro e w5 ⟨rfl, hb5⟩
      go_wp2
      go_ret
      exact ⟨rfl, E4.out.trans ((hb4.mono E4.out.size).trans (hb5.mono (Nat.le_trans E4.out.size hb4.size)))⟩
end Go.Proofs.Qxb6617844a
