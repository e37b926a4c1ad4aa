import Derived.Test.Qxb6617844aOneParts
namespace Go.Proofs.Qxb6617844a
open Go.RowKit

set_option maxRecDepth 100000 in
set_option maxHeartbeats 4000000 in
theorem one2 (a0 : Option Addr) (n cap0 : Nat) (fa : Nat → Int) (p : Nat) (r : Int) (w : World) (ha : Sl w a0 n fa) (hn : n ≤ 4096) (hcap : a0.isSome = false → cap0 = n) (hp : p < n) :
    Calls Try.prog 4 #[.slice a0 n cap0, .int .u8 2, .int .i64 p, .int .i32 r] w fun e w' => e = .returned (.bool true) ∧ Below w.heap.size w w' := by
  have hq := fun (w : World) (a : Option Addr) (n c : Nat) => run_neq_slice_nil_any (P := Try.prog) w 22 21 a n c 0 0 Try.underlying22
  have hmk0 := make22 n n (Nat.le_refl _) (by omega)
  have hmkb := makeb n hn
  have HA : Hid (Sl w a0 n fa) := ha
  have HC : Hid (a0.isSome = false → cap0 = n) := hcap
  clear ha hcap
  go_enter Try.func4, Try.ntmps4
  go_upto_if 50 with go_in
  go_cut [0, 9] (fun s0 _ wc => ∃ a', s0 = .slice a' n n ∧ Hid (Sl wc a' n fa) ∧ Below w.heap.size w wc)
  case first =>
    cases ha : a0.isSome with
    | false =>
      go_wp2
      go_meet
      case rel => exact ⟨a0, by rw [HC.out ha], HA, Below.refl _ _⟩
    | true =>
      go_wp2_with (refine wpList_copy_moved rfl (.tmp 54) (.tmp 55) 22 22 rfl 21 Try.underlying22 size21 w.heap.size 0 n n cap0 a0 rfl rfl (fun j => .int .i32 (fa j)) ?c1 ?c2 ?c3 ?c4 ?_)
      case c1 => exact (HA.out.below (alloc_bel w _)).src
      case c2 => intro j hj; rw [Nat.zero_add, zr32_cell w n j hj]; rfl
      case c3 => intro j hj; exact zr32_frozen w n _
      case c4 => intro j hj; rfl
      intro w1 hw1
      go_wp2
      go_meet
      case rel => exact ⟨_, rfl, hw1.sl (by simp), hw1.below (alloc_bel w _) (Nat.le_refl _)⟩
  case rest =>
    obtain ⟨a', rfl, HA', hbel⟩ := hcut
    obtain ⟨i0, hi, hz0, hz1, hz2⟩ := info_parts info21
    have B0 : Hid (Bw (wc.alloc (zr32 (n + 1))) wc.heap.size 0 (n + 1) fa) := Bw.start wc (n + 1) fa
    have A0 : Hid (Sl (wc.alloc (zr32 (n + 1))) a' n fa) := HA'.out.below (alloc_bel wc _)
    have hN : ∀ b q, a' = some ⟨b, q, none⟩ → 0 < n → b ≠ wc.heap.size := by
      intro b q e h0
      obtain ⟨b2, q2, e2, hlt, _⟩ := HA'.out h0
      rw [e] at e2; cases e2; omega
    have HN : Hid (∀ b q, a' = some ⟨b, q, none⟩ → 0 < n → b ≠ wc.heap.size) := hN
    clear hN
    go_wp2_with (at_builtin; go_must (refine wpList_append_moved rfl (.tmp 91) (.tmp 92) 22 rfl 21 i0 Try.underlying22 hi hz1 wc.heap.size 0 0 n (n + 1) _ _ rfl rfl ?c0 (fun j => .int .i32 (fa j)) ?c1 ?c2 ?c3 ?c4 ?_))
    case c0 => omega
    case c1 => exact A0.out.src
    case c2 => intro j hj; exact B0.out.room _ (by omega)
    case c3 => intro j hj; exact B0.out.frozen _
    case c4 => intro j hj; rfl
    intro w1 hw1
    have B1 : Bw w1 wc.heap.size (0 + n) (n + 1) (glue fa fa 0) := B0.out.moved hw1 rfl
    have A1 : Hid (Sl w1 a' n fa) := A0.out.moved hw1 HN.out
    have E1 : Hid (Below w.heap.size w w1) := hw1.below (hbel.trans ((alloc_bel wc _).mono hbel.size)) hbel.size
    rw [Nat.zero_add] at B1
    have g0 : ∀ j, glue fa fa 0 j = fa j := fun j => by unfold glue; rw [if_neg (by omega)]; rfl
    have cb := B1.part p (by omega)
    have fz := B1.frozen p
    obtain ⟨ba, qa, rfl, hba, hca⟩ := A1.out (by omega)
    have ca := hca p (by omega)
    have G0 : Hid (∀ j, glue fa fa 0 j = fa j) := g0
    have B2 : Hid (Bw w1 wc.heap.size n (n + 1) (glue fa fa 0)) := B1
    have hne : ba ≠ wc.heap.size := HN.out _ _ rfl (by omega)
    clear g0 hca hw1
    have cb2 : (w1.setCell ⟨wc.heap.size, p, none⟩ (.int .i32 r)).cell? ⟨ba, qa + p, none⟩ = some (.int .i32 (fa p)) := by
      rw [World.cell?_setCell_other _ _ _ _ (fun h => hne (congrArg Addr.block h).symm)]; exact ca
    obtain ⟨fb, hfb⟩ : ∃ fb, fb = upd (glue fa fa 0) p r := ⟨_, rfl⟩
    have B3 := B2.out.set p hp r
    rw [← hfb] at B3
    have S4 : Hid (Sl (w1.setCell ⟨wc.heap.size, p, none⟩ (.int .i32 r)) (some ⟨wc.heap.size, 0, none⟩) n fb) := B3.sl
    have A4 : Hid (Sl (w1.setCell ⟨wc.heap.size, p, none⟩ (.int .i32 r)) (some ⟨ba, qa, none⟩) n fa) := A1.out.set HN.out
    have E4 : Hid (Below w.heap.size w (w1.setCell ⟨wc.heap.size, p, none⟩ (.int .i32 r))) := E1.out.setCell hbel.size _
    have v1 : ∀ j, j ≠ p → fb j = fa j := fun j hj => by rw [hfb]; unfold upd; rw [if_neg hj]; exact G0.out j
    have v2 : fb p = r := by rw [hfb]; unfold upd; rw [if_pos rfl]
    by_cases hd : fa p = r
    · have hd' : (fa p != r) = false := by simpa using hd
      have hD := law_same fa fb n (fun j _ => by
        by_cases e : j = p
        · rw [e, v2, hd]
        · exact v1 j e)
      have e1 : (((min (Osa.D (fun i j => fa i == fb j) n n) 3 : Nat) : Int) == 0) = true := by rw [hD]; rfl
      have e2 : (((min (Osa.D (fun i j => fb i == fa j) n n) 3 : Nat) : Int) == 0) = true := by rw [Osa.turn_eq, hD]; rfl
      clear hD hfb B3 v1 v2 hd
      go_wp2_with fail
      refine (zzedits_any (some ⟨ba, qa, none⟩) (some ⟨wc.heap.size, 0, none⟩) n n n (n + 1) fa fb _ (by omega) (by omega) (by omega) (by omega) A4.out S4.out).mono ?_
      rintro e w4 ⟨rfl, hb4⟩
      have A5 : Hid (Sl w4 (some ⟨ba, qa, none⟩) n fa) := A4.out.below hb4
      have S5 : Hid (Sl w4 (some ⟨wc.heap.size, 0, none⟩) n fb) := S4.out.below hb4
      go_wp2_with fail
      refine (zzedits_any (some ⟨wc.heap.size, 0, none⟩) (some ⟨ba, qa, none⟩) n n (n + 1) n fb fa w4 (by omega) (by omega) (by omega) (by omega) S5.out A5.out).mono ?_
      rintro e w5 ⟨rfl, hb5⟩
      go_wp2
      go_ret
      exact ⟨rfl, E4.out.trans ((hb4.mono E4.out.size).trans (hb5.mono (Nat.le_trans E4.out.size hb4.size)))⟩
    · have hd' : (fa p != r) = true := by simpa using hd
      have hD := law_put fa fb n p hp (fun j _ hj => v1 j hj) (by rw [v2]; exact hd)
      have e1 : (((min (Osa.D (fun i j => fa i == fb j) n n) 3 : Nat) : Int) == 1) = true := by rw [hD]; rfl
      have e2 : (((min (Osa.D (fun i j => fb i == fa j) n n) 3 : Nat) : Int) == 1) = true := by rw [Osa.turn_eq, hD]; rfl
      clear hD hfb B3 v1 v2 hd
      go_wp2_with fail
      refine (zzedits_any (some ⟨ba, qa, none⟩) (some ⟨wc.heap.size, 0, none⟩) n n n (n + 1) fa fb _ (by omega) (by omega) (by omega) (by omega) A4.out S4.out).mono ?_
      rintro e w4 ⟨rfl, hb4⟩
      have A5 : Hid (Sl w4 (some ⟨ba, qa, none⟩) n fa) := A4.out.below hb4
      have S5 : Hid (Sl w4 (some ⟨wc.heap.size, 0, none⟩) n fb) := S4.out.below hb4
      go_wp2_with fail
      refine (zzedits_any (some ⟨wc.heap.size, 0, none⟩) (some ⟨ba, qa, none⟩) n n (n + 1) n fb fa w4 (by omega) (by omega) (by omega) (by omega) S5.out A5.out).mono ?_
      rintro e w5 ⟨rfl, hb5⟩
      go_wp2
      go_ret
      exact ⟨rfl, E4.out.trans ((hb4.mono E4.out.size).trans (hb5.mono (Nat.le_trans E4.out.size hb4.size)))⟩
end Go.Proofs.Qxb6617844a
