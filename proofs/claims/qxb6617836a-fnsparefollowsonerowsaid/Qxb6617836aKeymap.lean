import Derived.Test.Qxb6617836aSl
namespace Go.Proofs.Qxb6617836a
open Go.RowKit

/-- The cell of the result: its zero value. -/
def Z54 : Obj := .cells #[.int .u8 0, .int .i64 0, .slice none 0 0, .map none, .slice none 0 0] 54

/-- The map that is being filled: it holds mk below k. -/
def Mp (wr : World) (r k : Nat) (mk : Int → Option Bool) : Prop := r < wr.heap.size ∧ ∃ es clock, wr.heap[r]? = some (.map es clock) ∧ Plain es.toList ∧ ∀ x, getK es.toList x = if 0 ≤ x ∧ x < (k : Int) then mk x else none

theorem Mp.start (w : World) (mk : Int → Option Bool) : Mp (w.alloc (.map #[] 0)) w.heap.size 0 mk := by
  refine ⟨by simp, #[], 0, Array.getElem?_push_size, ?_, fun x => ?_⟩
  · intro e he; simp at he
  · rw [if_neg (by omega)]; rfl

theorem Mp.at {wr : World} {r k : Nat} {mk : Int → Option Bool} (h : Mp wr r k mk) : MapAt wr (.map (some r)) (fun x => if 0 ≤ x ∧ x < (k : Int) then mk x else none) := by
  obtain ⟨h1, es, clock, h2, h3, h4⟩ := h
  exact .inr ⟨r, es, clock, rfl, h1, h2, h3, h4⟩

theorem Mp.skip {wr : World} {r k : Nat} {mk : Int → Option Bool} (h : Mp wr r k mk) (hn : mk k = none) : Mp wr r (k + 1) mk := by
  obtain ⟨h1, es, clock, h2, h3, h4⟩ := h
  refine ⟨h1, es, clock, h2, h3, fun x => ?_⟩
  rw [h4 x]
  by_cases e : x = (k : Int)
  · subst e; rw [if_neg (by omega), if_pos (by omega), hn]
  · by_cases hx : 0 ≤ x ∧ x < (k : Int)
    · rw [if_pos hx, if_pos (by omega)]
    · rw [if_neg hx, if_neg (by omega)]

theorem Mp.put {wr : World} {r k : Nat} {mk : Int → Option Bool} (h : Mp wr r k mk) (b : Bool) (hb : mk k = some b) :
    ∃ o, (∀ P : Program, P.underlying 52 = some (.map 50 4) → P.underlying 50 = some (.int .u8) → (Instr.mapUpdate 52 (.map (some r)) (.int .u8 k) (.bool b)).run P wr = .ok () (setMap wr r o)) ∧ Mp (setMap wr r o) r (k + 1) mk := by
  obtain ⟨h1, es, clock, h2, h3, h4⟩ := h
  have hn : getK es.toList k = none := by rw [h4]; exact if_neg (by omega)
  refine ⟨_, fun P hm hk => put_run wr 52 50 4 hm hk r clock es h2 h3 k (.bool b) hn, by rw [setMap_size]; exact h1, _, _, setMap_at wr r _ h1, ?_, fun x => ?_⟩
  · intro e he
    rw [Array.toList_push, List.mem_append] at he
    rcases he with he | he
    · exact h3 e he
    · rw [List.mem_singleton] at he; subst he; exact ⟨_, _, rfl, rfl⟩
  · rw [Array.toList_push, getK_push, h4 x]
    by_cases e : x = (k : Int)
    · subst e
      have e1 : (if 0 ≤ (k : Int) ∧ (k : Int) < (k : Int) then mk k else none) = none := if_neg (by omega)
      have e2 : (if 0 ≤ (k : Int) ∧ (k : Int) < ((k + 1 : Nat) : Int) then mk k else none) = some b := by rw [if_pos (by omega), hb]
      rw [e1, e2]; simp [hit, bval]
    · have hh : ∀ v, hit { key := .int .u8 (k : Int), val := v, born := clock } x = false := fun v => by simpa [hit] using e
      rw [hh]
      by_cases hx : 0 ≤ x ∧ x < (k : Int)
      · have e2 : (if 0 ≤ x ∧ x < ((k + 1 : Nat) : Int) then mk x else none) = mk x := if_pos (by omega)
        rw [if_pos hx, e2]; cases mk x <;> rfl
      · have e2 : (if 0 ≤ x ∧ x < ((k + 1 : Nat) : Int) then mk x else none) = none := if_neg (by omega)
        rw [if_neg hx, e2]; rfl

theorem MapAt.congr {w : World} {v : Value} {mk mk' : Int → Option Bool} (h : MapAt w v mk) (e : ∀ x, mk x = mk' x) : MapAt w v mk' := by
  have : mk = mk' := funext e
  rw [← this]; exact h

theorem Sl.keep {N : Nat} {w w' : World} {a : Option Addr} {n : Nat} {f : Nat → Int} (h : Sl .u32 w a n f) (hN : ∀ j v, w.cell? ⟨N, j, none⟩ = some (.int .u32 v) → False) (hs : w.heap.size ≤ w'.heap.size) (ho : ∀ b, b ≠ N → w'.heap[b]? = w.heap[b]?) : Sl .u32 w' a n f := by
  intro hn
  obtain ⟨b, o, h1, h2, h3⟩ := h hn
  have hb : b ≠ N := fun e => by subst e; exact hN _ _ (h3 0 hn)
  exact ⟨b, o, h1, Nat.lt_of_lt_of_le h2 hs, fun j hj => (World.cell?_of_block (w := w) (a := ⟨b, o + j, none⟩) (ho b hb)).trans (h3 j hj)⟩

theorem MapAt.keep {N : Nat} {w w' : World} {v : Value} {mk : Int → Option Bool} (h : MapAt w v mk) (hN : ∀ es c, w.heap[N]? = some (.map es c) → False) (hs : w.heap.size ≤ w'.heap.size) (ho : ∀ b, b ≠ N → w'.heap[b]? = w.heap[b]?) : MapAt w' v mk := by
  rcases h with h | ⟨r, es, clock, h1, h2, h3, h4, h5⟩
  · exact .inl h
  · have hb : r ≠ N := fun e => by subst e; exact hN _ _ h3
    exact .inr ⟨r, es, clock, h1, Nat.lt_of_lt_of_le h2 hs, by rw [ho r hb]; exact h3, h4, h5⟩

theorem und5 : Try.prog.underlying 5 = some (.int .u8) := by kernel_rfl
theorem und50 : Try.prog.underlying 50 = some (.int .u8) := by kernel_rfl
theorem und52 : Try.prog.underlying 52 = some (.map 50 4) := by kernel_rfl
theorem und31 : Try.prog.underlying 31 = some (.map 5 4) := by kernel_rfl

set_option maxRecDepth 100000 in
set_option maxHeartbeats 4000000 in
theorem keymap_any (first : Int) (width : Int) (a0 : Option Addr) (n c0 : Nat) (fs : Nat → Int) (mo : Option Nat) (mk : Int → Option Bool) (w : World)
    (ha : Sl .u32 w a0 n fs) (hn : n ≤ 65536) (hm : MapAt w (.map mo) mk) (hnil : a0.isSome = false → n = 0) :
    Calls Try.prog 19 #[.int .u8 first, .int .i64 width, .slice a0 n c0, .map mo, .slice none 0 0] w fun e w' =>
      ∃ a' mv', e = .returned (.agg #[.int .u8 first, .int .i64 width, .slice a' n n, mv', .slice none 0 0]) ∧ Sl .u32 w' a' n fs ∧ MapAt w' mv' (fun x => if 0 ≤ x ∧ x < 256 then mk x else none) ∧ Below w.heap.size w w' := by
  have hq := fun (w : World) (a : Option Addr) (n c : Nat) => run_neq_slice_nil_any (P := Try.prog) w 22 24 a n c 0 0 Try.underlying22
  have hq2 := fun (w : World) (a : Option Addr) (n c : Nat) => run_neq_slice_nil_any (P := Try.prog) w 32 5 a n c 0 0 Try.underlying32
  have hmk0 := make_run 51 62 .u32 4 Try.underlying51 info62 (by decide) n n (Nat.le_refl _) (by omega)
  have hmm := @run_makeMap Try.prog
  have hnm := fun (w : World) (r : Option Nat) => run_neq_map_nil (P := Try.prog) w 31 5 4 r Try.underlying31
  have HA : Hid (Sl .u32 w a0 n fs) := ha
  have HM : Hid (MapAt w (.map mo) mk) := hm
  have HNil : Hid (a0.isSome = false → n = 0) := hnil
  clear ha hm hnil
  go_enter Try.func19, Try.ntmps19
  go_upto_if 20 with fail
  go_cut [11, 12] (fun s11 _ wc => ∃ a', s11 = .slice a' n n ∧ Hid (Sl .u32 wc a' n fs) ∧ Below (w.heap.size + 1) (w.alloc Z54) wc)
  case first =>
    cases ha : a0.isSome with
    | false =>
      go_wp2
      go_meet
      case rel =>
        have h0 := HNil.out ha
        subst h0
        exact ⟨none, rfl, fun h => absurd h (Nat.lt_irrefl 0), Below.refl _ _⟩
    | true =>
      go_wp2
      go_loopg [12] n (fun g i wr => ∃ k : Nat, k ≤ n ∧ g = n - k ∧ i = .int .i64 k ∧ Hid (Bw .u32 wr (w.heap.size + 1) k n fs) ∧ Below (w.heap.size + 1) (w.alloc Z54) wr)
      case atStart =>
        refine ⟨0, by omega, rfl, rfl, ?_, ?_⟩
        · have := Bw.start .u32 62 (w.alloc Z54) n fs
          rw [World.size_alloc] at this
          exact this
        · have := alloc_bel (w.alloc Z54) (zr .u32 62 n)
          rw [World.size_alloc] at this
          exact this
      case round =>
        obtain ⟨k, hk, rfl, rfl, HB, hbel⟩ := hrel
        by_cases hlt : k < n
        · have hdn : decide ((k : Int) < (n : Int)) = true := by rw [decide_eq_true_eq]; omega
          obtain ⟨u, cu⟩ := HB.out.room k hlt
          have fu := HB.out.frozen k
          have hb0 : Below w.heap.size w wr := (alloc_bel w Z54).trans (hbel.mono (by omega))
          obtain ⟨b, o, rfl, hlb, hc⟩ := (HA.out.below hb0) (by omega)
          have ck := hc k hlt
          clear hc hb0
          go_wp2
          go_roundg (n - (k + 1))
          case measure => omega
          case rel => exact ⟨k + 1, by omega, rfl, by go_num, HB.out.put hlt, hbel.setCell (Nat.le_refl _) _⟩
        · obtain rfl : k = n := by omega
          go_wp2
          go_meet
          case rel => exact ⟨_, rfl, HB.out.sl, hbel⟩
  case rest =>
    obtain ⟨a', rfl, HA', hbel⟩ := hcut
    have hb0 : Below w.heap.size w wc := (alloc_bel w Z54).trans (hbel.mono (by omega))
    have HM' : Hid (MapAt wc (.map mo) mk) := HM.out.below hb0
    go_upto_if 38 with fail
    go_cut [13, 14, 15, 16] (fun s13 _ _ _ wd => ∃ mo2, s13 = .map mo2 ∧ Hid (MapAt wd (.map mo2) (fun x => if 0 ≤ x ∧ x < 256 then mk x else none)) ∧ Hid (Sl .u32 wd a' n fs) ∧ Below (w.heap.size + 1) (w.alloc Z54) wd)
    case first =>
      cases hmo : mo.isSome with
      | false =>
        go_wp2
        go_meet
        case rel =>
          refine ⟨none, rfl, .inl ⟨rfl, fun x => ?_⟩, HA', hbel⟩
          rcases HM.out with ⟨_, hn⟩ | ⟨r, es, clock, e, _⟩
          · show (if 0 ≤ x ∧ x < 256 then mk x else none) = none
            rw [hn x]; exact ite_self _
          · cases e; cases hmo
      | true =>
        go_wp2
        go_loopg [14, 15, 16] 256 (fun g i _ _ wr => ∃ k : Nat, k ≤ 256 ∧ g = 256 - k ∧ i = .int .i64 k ∧ Hid (Mp wr wc.heap.size k mk) ∧ Below wc.heap.size wc wr)
        case atStart => exact ⟨0, by omega, rfl, rfl, Mp.start wc mk, alloc_bel _ _⟩
        case round =>
          obtain ⟨k, hk, rfl, rfl, HP, hbl⟩ := hrel
          by_cases hlt : k < 256
          · have hdn : decide ((k : Int) < 256) = true := by rw [decide_eq_true_eq]; omega
            have hlk := (HM'.out.below hbl).lookOk 31 5 4 und31 und5 zero4 (k : Int)
            cases hmk : mk (k : Int) with
            | none =>
              rw [hmk] at hlk
              go_wp2
              go_roundg (256 - (k + 1))
              case measure => omega
              case rel => exact ⟨k + 1, by omega, rfl, by go_num, HP.out.skip hmk, hbl⟩
            | some b =>
              rw [hmk] at hlk
              obtain ⟨ob, hput, HP2⟩ := HP.out.put b hmk
              have hput := hput Try.prog und52 und50
              have HP2 : Hid _ := HP2
              go_wp2
              go_roundg (256 - (k + 1))
              case measure => omega
              case rel => exact ⟨k + 1, by omega, rfl, by go_num, HP2, setMap_below hbl _ _ (Nat.le_refl _)⟩
          · obtain rfl : k = 256 := by omega
            go_wp2
            go_meet
            case rel => exact ⟨_, rfl, HP.out.at, HA'.out.below hbl, hbel.trans (hbl.mono (by rw [← World.size_alloc w Z54]; exact hbel.size))⟩
    case rest =>
      obtain ⟨mo2, rfl, HM2, HA2, hbel2⟩ := hcut
      have hc : ∀ j, wc.cell? ⟨w.heap.size, j, none⟩ = (w.alloc Z54).cell? ⟨w.heap.size, j, none⟩ := fun j => hbel2.cell (p := ⟨w.heap.size, j, none⟩) (Nat.lt_succ_self _)
      have hf : ∀ j, wc.frozen? ⟨w.heap.size, j, none⟩ = false := fun j => (hbel2.frozen (p := ⟨w.heap.size, j, none⟩) (Nat.lt_succ_self _)).trans (by rw [Z54, World.frozen?_alloc_at _ _ _ _ rfl])
      have g0 := (hc 0).trans (by rw [Z54, World.cell?_alloc_at _ _ _ _ rfl])
      have g1 := (hc 1).trans (by rw [Z54, World.cell?_alloc_at _ _ _ _ rfl])
      have g2 := (hc 2).trans (by rw [Z54, World.cell?_alloc_at _ _ _ _ rfl])
      have g3 := (hc 3).trans (by rw [Z54, World.cell?_alloc_at _ _ _ _ rfl])
      have g4 := (hc 4).trans (by rw [Z54, World.cell?_alloc_at _ _ _ _ rfl])
      have f0 := hf 0
      have f1 := hf 1
      have f2 := hf 2
      have f3 := hf 3
      have f4 := hf 4
      have HX : Hid (∀ j v, wc.cell? ⟨w.heap.size, j, none⟩ = some (.int .u32 v) → False) := fun j v h => by
        rw [hc j, Z54, World.cell?_alloc_at _ _ _ _ rfl] at h
        match j, h with
        | 0, h => cases h
        | 1, h => cases h
        | 2, h => cases h
        | 3, h => cases h
        | 4, h => cases h
        | j + 5, h => simp at h
      have HY : Hid (wc.heap[w.heap.size]? = some Z54) := (hbel2.block w.heap.size (Nat.lt_succ_self _)).trans Array.getElem?_push_size
      clear hc hf
      go_wp2
      refine bodyPost_ret (v := .agg #[.int .u8 first, .int .i64 width, .slice a' n n, .map mo2, .slice none 0 0]) ?_ rfl ⟨a', .map mo2, rfl, HA2.out.keep HX.out ?_ ?_, HM2.out.keep (fun es c h => by rw [HY.out] at h; cases h) ?_ ?_, ?_⟩
      · simp [results, Try.results19, go_sem, g0, g1, g2, g3, g4]
      · simp
      · intro b hb; rw [Below.heap_setCell _ _ _ _ hb, Below.heap_setCell _ _ _ _ hb, Below.heap_setCell _ _ _ _ hb, Below.heap_setCell _ _ _ _ hb, Below.heap_setCell _ _ _ _ hb]
      · simp
      · intro b hb; rw [Below.heap_setCell _ _ _ _ hb, Below.heap_setCell _ _ _ _ hb, Below.heap_setCell _ _ _ _ hb, Below.heap_setCell _ _ _ _ hb, Below.heap_setCell _ _ _ _ hb]
      · refine ((((((alloc_bel w Z54).trans (hbel2.mono (by omega))).setCell ?_ _).setCell ?_ _).setCell ?_ _).setCell ?_ _).setCell ?_ _ <;> exact Nat.le_refl _
end Go.Proofs.Qxb6617836a
