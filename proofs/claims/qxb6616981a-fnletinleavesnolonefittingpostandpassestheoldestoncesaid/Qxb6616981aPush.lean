/-
  container/list: lazyInit, insert, insertValue, PushBack.
-/
import Derived.Test.Qxb6616981aList
namespace Go.Proofs.Qxb6616981a
open Go.RowKit

set_option maxRecDepth 100000
set_option maxHeartbeats 4000000

/-- The world behind l.insert(e, at): at = (ab, ao), its next one (nb, no). -/
def insW (w : World) (b o eb ab ao nb no : Nat) (k : Int) : World :=
  (((((w.setCell ⟨eb, 1, none⟩ (pt ab ao)).setCell ⟨eb, 0, none⟩ (pt nb no)).setCell ⟨ab, ao, none⟩ (pt eb 0)).setCell ⟨nb, no + 1, none⟩ (pt eb 0)).setCell ⟨eb, 2, none⟩ (pt b o)).setCell ⟨b, o + 4, none⟩ (.int .i64 (k + 1))

theorem insert_any (b o eb ab ao nb no : Nat) (k : Int) (e0 e1 e2 u2 : Value) (w : World)
    (h1 : w.cell? ⟨b, o + 4, none⟩ = some (.int .i64 k)) (hk0 : 0 ≤ k) (hk1 : k < 4611686018427387904) (he0 : w.cell? ⟨eb, 0, none⟩ = some e0) (he1 : w.cell? ⟨eb, 1, none⟩ = some e1)
    (he2 : w.cell? ⟨eb, 2, none⟩ = some e2) (hp : w.cell? ⟨ab, ao, none⟩ = some (pt nb no)) (hq : w.cell? ⟨nb, no + 1, none⟩ = some u2)
    (n1 : ¬ ab = eb) (n2 : ¬ nb = eb) (n3 : ¬ b = eb) (n4 : ¬ ao = no + 1) (n5 : ¬ ao = o + 4) (n6 : ¬ no + 1 = o + 4)
    (f1 : w.frozen? ⟨b, o + 4, none⟩ = false) (fe0 : w.frozen? ⟨eb, 0, none⟩ = false) (fe1 : w.frozen? ⟨eb, 1, none⟩ = false) (fe2 : w.frozen? ⟨eb, 2, none⟩ = false) (fp : w.frozen? ⟨ab, ao, none⟩ = false) (fq : w.frozen? ⟨nb, no + 1, none⟩ = false) :
    Calls Try.prog 32 #[pt b o, pt eb 0, pt ab ao] w fun e w' => e = .returned (pt eb 0) ∧ w' = insW w b o eb ab ao nb no k := by
  go_enter Try.func32, Try.ntmps32
  go_wp2
  go_ret
  exact ⟨rfl, by unfold insW; rfl⟩

/-- A new element. -/
def elO (v : Value) : Obj := .cells #[.pointer none, .pointer none, .pointer none, v] 53

theorem insertValue_any (b o ab ao nb no : Nat) (k : Int) (t : TypeId) (x : Value) (u2 : Value) (w : World)
    (h1 : w.cell? ⟨b, o + 4, none⟩ = some (.int .i64 k)) (hk0 : 0 ≤ k) (hk1 : k < 4611686018427387904)
    (hp : w.cell? ⟨ab, ao, none⟩ = some (pt nb no)) (hq : w.cell? ⟨nb, no + 1, none⟩ = some u2)
    (n4 : ¬ ao = no + 1) (n5 : ¬ ao = o + 4) (n6 : ¬ no + 1 = o + 4)
    (f1 : w.frozen? ⟨b, o + 4, none⟩ = false) (fp : w.frozen? ⟨ab, ao, none⟩ = false) (fq : w.frozen? ⟨nb, no + 1, none⟩ = false) :
    Calls Try.prog 24 #[pt b o, .iface t x, pt ab ao] w fun e w' => e = .returned (pt w.heap.size 0) ∧ w' = insW (w.alloc (elO (.iface t x))) b o w.heap.size ab ao nb no k := by
  have hb : b < w.heap.size := World.block_lt_of_cell? _ _ h1
  have ha : ab < w.heap.size := World.block_lt_of_cell? _ _ hp
  have hn : nb < w.heap.size := World.block_lt_of_cell? _ _ hq
  have bel : Below w.heap.size w (w.alloc (elO (.iface t x))) := (Below.refl _ _).alloc (Nat.le_refl _) _
  have HC : Hid (Calls Try.prog 32 #[pt b o, pt w.heap.size 0, pt ab ao] (w.alloc (elO (.iface t x))) fun e w' => e = .returned (pt w.heap.size 0) ∧ w' = insW (w.alloc (elO (.iface t x))) b o w.heap.size ab ao nb no k) := by
    refine insert_any b o w.heap.size ab ao nb no k (.pointer none) (.pointer none) (.pointer none) u2 _ ((bel.cell (p := ⟨b, o + 4, none⟩) hb).trans h1) hk0 hk1 ?_ ?_ ?_ ((bel.cell (p := ⟨ab, ao, none⟩) ha).trans hp) ((bel.cell (p := ⟨nb, no + 1, none⟩) hn).trans hq)
      (by omega) (by omega) (by omega) n4 n5 n6 ((bel.frozen (p := ⟨b, o + 4, none⟩) hb).trans f1) ?_ ?_ ?_ ((bel.frozen (p := ⟨ab, ao, none⟩) ha).trans fp) ((bel.frozen (p := ⟨nb, no + 1, none⟩) hn).trans fq)
    · rw [elO, World.cell?_alloc_at _ _ _ _ rfl]; rfl
    · rw [elO, World.cell?_alloc_at _ _ _ _ rfl]; rfl
    · rw [elO, World.cell?_alloc_at _ _ _ _ rfl]; rfl
    · rw [elO, World.frozen?_alloc_at _ _ _ _ rfl]
    · rw [elO, World.frozen?_alloc_at _ _ _ _ rfl]
    · rw [elO, World.frozen?_alloc_at _ _ _ _ rfl]
  obtain ⟨w3, hw3⟩ : ∃ w3, w3 = insW (w.alloc (elO (.iface t x))) b o w.heap.size ab ao nb no k := ⟨_, rfl⟩
  rw [← hw3] at HC ⊢
  clear bel h1 hp hq f1 fp fq hw3 n4 n5 n6
  go_enter Try.func24, Try.ntmps24
  go_wp2_with fail
  refine HC.out.mono ?_
  rintro e w' ⟨rfl, rfl⟩
  go_wp2
  go_ret
  exact ⟨rfl, rfl⟩

def initW (w : World) (b o : Nat) : World := ((w.setCell ⟨b, o, none⟩ (pt b o)).setCell ⟨b, o + 1, none⟩ (pt b o)).setCell ⟨b, o + 4, none⟩ (.int .i64 0)

theorem init_any (b o : Nat) (v0 v1 v4 : Value) (w : World) (h0 : w.cell? ⟨b, o, none⟩ = some v0) (h1 : w.cell? ⟨b, o + 1, none⟩ = some v1) (h4 : w.cell? ⟨b, o + 4, none⟩ = some v4)
    (f0 : w.frozen? ⟨b, o, none⟩ = false) (f1 : w.frozen? ⟨b, o + 1, none⟩ = false) (f4 : w.frozen? ⟨b, o + 4, none⟩ = false) :
    Calls Try.prog 31 #[pt b o] w fun e w' => e = .returned (pt b o) ∧ w' = initW w b o := by
  go_enter Try.func31, Try.ntmps31
  go_wp2
  go_ret
  exact ⟨rfl, by unfold initW; rfl⟩

theorem lazy_yes (b o : Nat) (v1 v4 : Value) (w : World) (h0 : w.cell? ⟨b, o, none⟩ = some (.pointer none)) (h1 : w.cell? ⟨b, o + 1, none⟩ = some v1) (h4 : w.cell? ⟨b, o + 4, none⟩ = some v4)
    (f0 : w.frozen? ⟨b, o, none⟩ = false) (f1 : w.frozen? ⟨b, o + 1, none⟩ = false) (f4 : w.frozen? ⟨b, o + 4, none⟩ = false) :
    Calls Try.prog 23 #[pt b o] w fun e w' => e = .returned (.tuple #[]) ∧ w' = initW w b o := by
  have HC : Hid (Calls Try.prog 31 #[pt b o] w fun e w' => e = .returned (pt b o) ∧ w' = initW w b o) := init_any b o _ v1 v4 w h0 h1 h4 f0 f1 f4
  obtain ⟨w3, hw3⟩ : ∃ w3, w3 = initW w b o := ⟨_, rfl⟩
  rw [← hw3] at HC ⊢
  clear hw3 h1 h4 f0 f1 f4
  go_enter Try.func23, Try.ntmps23
  go_wp2_with fail
  refine HC.out.mono ?_
  rintro e w' ⟨rfl, rfl⟩
  go_wp2
  exact bodyPost_end (v := .tuple #[]) (by simp [results, Try.results23]) rfl ⟨rfl, rfl⟩

theorem lazy_no (b o nb no : Nat) (w : World) (h0 : w.cell? ⟨b, o, none⟩ = some (pt nb no)) :
    Calls Try.prog 23 #[pt b o] w fun e w' => e = .returned (.tuple #[]) ∧ w' = w := by
  go_enter Try.func23, Try.ntmps23
  go_wp2
  exact bodyPost_end (v := .tuple #[]) (by simp [results, Try.results23]) rfl ⟨rfl, rfl⟩

/-- l.PushBack(x), the list in use: its last node (ab, ao). -/
theorem pushBack_any (b o ab ao nb no : Nat) (k : Int) (t : TypeId) (x : Value) (w : World)
    (h0 : w.cell? ⟨b, o, none⟩ = some (pt nb no)) (hp : w.cell? ⟨ab, ao, none⟩ = some (pt b o)) (hq : w.cell? ⟨b, o + 1, none⟩ = some (pt ab ao))
    (h1 : w.cell? ⟨b, o + 4, none⟩ = some (.int .i64 k)) (hk0 : 0 ≤ k) (hk1 : k < 4611686018427387904)
    (n4 : ¬ ao = o + 1) (n5 : ¬ ao = o + 4)
    (f1 : w.frozen? ⟨b, o + 4, none⟩ = false) (fp : w.frozen? ⟨ab, ao, none⟩ = false) (fq : w.frozen? ⟨b, o + 1, none⟩ = false) :
    Calls Try.prog 18 #[pt b o, .iface t x] w fun e w' => e = .returned (pt w.heap.size 0) ∧ w' = insW (w.alloc (elO (.iface t x))) b o w.heap.size ab ao b o k := by
  have H1 : Hid (Calls Try.prog 23 #[pt b o] w fun e w' => e = .returned (.tuple #[]) ∧ w' = w) := lazy_no b o nb no w h0
  have HC : Hid (Calls Try.prog 24 #[pt b o, .iface t x, pt ab ao] w fun e w' => e = .returned (pt w.heap.size 0) ∧ w' = insW (w.alloc (elO (.iface t x))) b o w.heap.size ab ao b o k) :=
    insertValue_any b o ab ao b o k t x _ w h1 hk0 hk1 hp hq n4 n5 (by omega) f1 fp fq
  obtain ⟨w3, hw3⟩ : ∃ w3, w3 = insW (w.alloc (elO (.iface t x))) b o w.heap.size ab ao b o k := ⟨_, rfl⟩
  rw [← hw3] at HC ⊢
  clear hw3 h1 hp f1 fp fq n4 n5 h0
  go_enter Try.func18, Try.ntmps18
  go_wp2_with fail
  refine H1.out.mono ?_
  rintro e w' ⟨rfl, rfl⟩
  go_wp2_with fail
  refine HC.out.mono ?_
  rintro e w' ⟨rfl, rfl⟩
  go_wp2
  go_ret
  exact ⟨rfl, rfl⟩

/-- l.PushBack(x), the list never used before. -/
theorem pushBack_new (b o : Nat) (v1 v4 : Value) (t : TypeId) (x : Value) (w : World)
    (h0 : w.cell? ⟨b, o, none⟩ = some (.pointer none)) (h1 : w.cell? ⟨b, o + 1, none⟩ = some v1) (h4 : w.cell? ⟨b, o + 4, none⟩ = some v4)
    (f0 : w.frozen? ⟨b, o, none⟩ = false) (f1 : w.frozen? ⟨b, o + 1, none⟩ = false) (f4 : w.frozen? ⟨b, o + 4, none⟩ = false) :
    Calls Try.prog 18 #[pt b o, .iface t x] w fun e w' => e = .returned (pt w.heap.size 0) ∧ w' = insW ((initW w b o).alloc (elO (.iface t x))) b o w.heap.size b o b o 0 := by
  have H1 : Hid (Calls Try.prog 23 #[pt b o] w fun e w' => e = .returned (.tuple #[]) ∧ w' = initW w b o) := lazy_yes b o v1 v4 w h0 h1 h4 f0 f1 f4
  have hsz : (initW w b o).heap.size = w.heap.size := by unfold initW; simp
  have c0 : (initW w b o).cell? ⟨b, o, none⟩ = some (pt b o) := by
    unfold initW; rw [cell_other (.inr (by omega)), cell_other (.inr (by omega))]; exact cell_same h0
  have c1 : (initW w b o).cell? ⟨b, o + 1, none⟩ = some (pt b o) := by
    unfold initW; rw [cell_other (.inr (by omega))]; exact cell_same ((cell_other (.inr (by omega))).trans h1)
  have c4 : (initW w b o).cell? ⟨b, o + 4, none⟩ = some (.int .i64 0) := by
    unfold initW; exact cell_same ((cell_other (.inr (by omega))).trans ((cell_other (.inr (by omega))).trans h4))
  have hfr : ∀ j, (initW w b o).frozen? ⟨b, j, none⟩ = w.frozen? ⟨b, j, none⟩ := fun j => by unfold initW; rw [fr_set, fr_set, fr_set]
  have HC : Hid (Calls Try.prog 24 #[pt b o, .iface t x, pt b o] (initW w b o) fun e w' => e = .returned (pt (initW w b o).heap.size 0) ∧ w' = insW ((initW w b o).alloc (elO (.iface t x))) b o (initW w b o).heap.size b o b o 0) :=
    insertValue_any b o b o b o 0 t x _ _ c4 (by omega) (by omega) c0 c1 (by omega) (by omega) (by omega) (by rw [hfr]; exact f4) (by rw [hfr]; exact f0) (by rw [hfr]; exact f1)
  rw [hsz] at HC
  obtain ⟨w2, hw2⟩ : ∃ w2, w2 = initW w b o := ⟨_, rfl⟩
  rw [← hw2] at H1 HC c1 ⊢
  obtain ⟨w3, hw3⟩ : ∃ w3, w3 = insW (w2.alloc (elO (.iface t x))) b o w.heap.size b o b o 0 := ⟨_, rfl⟩
  rw [← hw3] at HC ⊢
  clear hw3 hw2 h1 h4 f0 f1 f4 c0 c4 hfr hsz h0
  go_enter Try.func18, Try.ntmps18
  go_wp2_with fail
  refine H1.out.mono ?_
  rintro e w' ⟨rfl, rfl⟩
  go_wp2_with fail
  refine HC.out.mono ?_
  rintro e w' ⟨rfl, rfl⟩
  go_wp2
  go_ret
  exact ⟨rfl, rfl⟩
end Go.Proofs.Qxb6616981a
