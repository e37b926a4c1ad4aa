/-
  container/list, walked: Init, lazyInit, insert, insertValue, PushBack, Front, Next, remove, Remove. Each end world is written out.
-/
import Derived.Test.Qxb6616981aBase
namespace Go.Proofs.Qxb6616981a
open Go.RowKit

set_option maxRecDepth 100000
set_option maxHeartbeats 4000000

/-- A block of cells, none of them frozen. -/
def PtrOK (w : World) (b : Nat) : Prop := (∃ o v, w.cell? ⟨b, o, none⟩ = some v) ∧ ∀ o, w.frozen? ⟨b, o, none⟩ = false

theorem run_same {P : Program} {w : World} {ab ao bb bo : Nat} (ha : PtrOK w ab) (hb : PtrOK w bb) : (sameAddr ⟨ab, ao, none⟩ ⟨bb, bo, none⟩).run P w = .ok (decide (ab = bb ∧ ao = bo)) w := by
  by_cases e : ab = bb
  · subst e
    by_cases e2 : ao = bo
    · subst e2; simp [sameAddr]
    · have : ((⟨ab, ao, none⟩ : Addr) == ⟨ab, bo, none⟩) = false := by rw [beq_eq_false_iff_ne]; intro h; cases h; exact e2 rfl
      simp [sameAddr, this, e2]
  · obtain ⟨⟨o1, v1, c1⟩, f1⟩ := ha
    obtain ⟨⟨o2, v2, c2⟩, f2⟩ := hb
    simp only [World.cell?] at c1 c2
    split at c1
    · rename_i c t fr h1
      split at c2
      · rename_i c' t' fr' h2
        have g1 := f1 ao
        have g2 := f2 bo
        have g3 := f1 c.size
        have g4 := f2 c'.size
        have s1 : w.shape? ab = some (t, c.size) := by simp [World.shape?, h1]
        have s2 : w.shape? bb = some (t', c'.size) := by simp [World.shape?, h2]
        simp [sameAddr, e, g1, g2, g3, g4, noView, viewAt, mayBeOne, stringish, s1, s2]
      · cases c2
    · cases c1

theorem run_eql_pp {P : Program} {w : World} {tp te : TypeId} {j : TypeInfo} {ab ao bb bo : Nat} (hp : P.underlying tp = some (.pointer te)) (hte : P.info? te = some j) (hsz : j.size ≠ 0) (ha : PtrOK w ab) (hb : PtrOK w bb) :
    (binOp .eql tp (pt ab ao) (pt bb bo)).run P w = .ok (.bool (decide (ab = bb ∧ ao = bo))) w := by
  have h : ∀ d : Nat, (Op.equalIn (d + 1) tp (pt ab ao) (pt bb bo)).run P w = .ok (decide (ab = bb ∧ ao = bo)) w := fun d => by
    simp [Op.equalIn, run_underlying hp, sizeOf, typeInfo, hte, hsz, run_same ha hb]
  simp only [binOp]
  simp [Op.equal, Op.maxDepth, h 9999]
theorem run_neq_pp {P : Program} {w : World} {tp te : TypeId} {j : TypeInfo} {ab ao bb bo : Nat} (hp : P.underlying tp = some (.pointer te)) (hte : P.info? te = some j) (hsz : j.size ≠ 0) (ha : PtrOK w ab) (hb : PtrOK w bb) :
    (binOp .neq tp (pt ab ao) (pt bb bo)).run P w = .ok (.bool (!decide (ab = bb ∧ ao = bo))) w := by
  have h : ∀ d : Nat, (Op.equalIn (d + 1) tp (pt ab ao) (pt bb bo)).run P w = .ok (decide (ab = bb ∧ ao = bo)) w := fun d => by
    simp [Op.equalIn, run_underlying hp, sizeOf, typeInfo, hte, hsz, run_same ha hb]
  simp only [binOp]
  simp [Op.equal, Op.maxDepth, h 9999]

theorem und30 : Try.prog.underlying 30 = some (.pointer 64) := by kernel_rfl
theorem und50 : Try.prog.underlying 50 = some (.pointer 53) := by kernel_rfl
theorem und51 : Try.prog.underlying 51 = some (.pointer 55) := by kernel_rfl
theorem size_parts {P : Program} {t : TypeId} {k : Nat} (h : (P.info? t).map (·.size) = some k) : ∃ j, P.info? t = some j ∧ j.size = k := by
  obtain ⟨i, hi, hb⟩ := Option.map_eq_some_iff.1 h
  exact ⟨i, hi, hb⟩
theorem isz64 : (Try.prog.info? 64).map (·.size) = some 5 := by kernel_rfl
theorem isz53 : (Try.prog.info? 53).map (·.size) = some 4 := by kernel_rfl
theorem isz55 : (Try.prog.info? 55).map (·.size) = some 5 := by kernel_rfl
theorem neq50 {w : World} {ab ao bb bo : Nat} (ha : PtrOK w ab) (hb : PtrOK w bb) : (binOp .neq 50 (pt ab ao) (pt bb bo)).run Try.prog w = .ok (.bool (!decide (ab = bb ∧ ao = bo))) w := by
  obtain ⟨j, h1, h2⟩ := size_parts isz53
  exact run_neq_pp und50 h1 (by omega) ha hb
theorem eql51 {w : World} {ab ao bb bo : Nat} (ha : PtrOK w ab) (hb : PtrOK w bb) : (binOp .eql 51 (pt ab ao) (pt bb bo)).run Try.prog w = .ok (.bool (decide (ab = bb ∧ ao = bo))) w := by
  obtain ⟨j, h1, h2⟩ := size_parts isz55
  exact run_eql_pp und51 h1 (by omega) ha hb
theorem neq30 {w : World} {ab ao bb bo : Nat} (ha : PtrOK w ab) (hb : PtrOK w bb) : (binOp .neq 30 (pt ab ao) (pt bb bo)).run Try.prog w = .ok (.bool (!decide (ab = bb ∧ ao = bo))) w := by
  obtain ⟨j, h1, h2⟩ := size_parts isz64
  exact run_neq_pp und30 h1 (by omega) ha hb

theorem front_any (b o : Nat) (k : Int) (v : Value) (w : World) (h1 : w.cell? ⟨b, o + 4, none⟩ = some (.int .i64 k)) (h2 : w.cell? ⟨b, o, none⟩ = some v) :
    Calls Try.prog 21 #[pt b o] w fun e w' => e = .returned (if k = 0 then .pointer none else v) ∧ w' = w := by
  by_cases hk : k = 0
  · subst hk
    go_enter Try.func21, Try.ntmps21
    go_wp2
    go_ret
    exact ⟨rfl, rfl⟩
  · have hd : (k == 0) = false := by rw [beq_eq_false_iff_ne]; exact hk
    go_enter Try.func21, Try.ntmps21
    go_wp2
    go_ret
    exact ⟨rfl, rfl⟩

/-- e.Next() of an element whose list is at (b, o): the next one, or nil at the root. -/
theorem next_any (eb b o qb qo : Nat) (w : World) (h0 : w.cell? ⟨eb, 0, none⟩ = some (pt qb qo)) (h2 : w.cell? ⟨eb, 2, none⟩ = some (pt b o)) (hq : PtrOK w qb) (hb : PtrOK w b) (t : Bool) (ht : (decide (qb = b ∧ qo = o)) = t) :
    Calls Try.prog 22 #[pt eb 0] w fun e w' => e = .returned (if t then .pointer none else pt qb qo) ∧ w' = w := by
  have hn := neq50 (ao := qo) (bo := o) hq hb
  rw [ht] at hn
  clear ht hq hb
  cases t with
  | true =>
    go_enter Try.func22, Try.ntmps22
    go_wp2
    go_ret
    exact ⟨rfl, rfl⟩
  | false =>
    go_enter Try.func22, Try.ntmps22
    go_wp2
    go_ret
    exact ⟨rfl, rfl⟩

/-- The world behind l.remove(e). -/
def rmW (w : World) (b o eb pb po qb qo : Nat) (k : Int) : World :=
  (((((w.setCell ⟨pb, po, none⟩ (pt qb qo)).setCell ⟨qb, qo + 1, none⟩ (pt pb po)).setCell ⟨eb, 0, none⟩ (.pointer none)).setCell ⟨eb, 1, none⟩ (.pointer none)).setCell ⟨eb, 2, none⟩ (.pointer none)).setCell ⟨b, o + 4, none⟩ (.int .i64 (k - 1))

theorem remove_any (b o eb pb po qb qo : Nat) (k : Int) (u1 u2 v3 : Value) (w : World)
    (h1 : w.cell? ⟨b, o + 4, none⟩ = some (.int .i64 k)) (hk0 : 0 < k) (hk1 : k < 4611686018427387904) (he0 : w.cell? ⟨eb, 0, none⟩ = some (pt qb qo)) (he1 : w.cell? ⟨eb, 1, none⟩ = some (pt pb po))
    (he2 : w.cell? ⟨eb, 2, none⟩ = some v3) (hp : w.cell? ⟨pb, po, none⟩ = some u1) (hq : w.cell? ⟨qb, qo + 1, none⟩ = some u2)
    (n1 : ¬ pb = eb) (n2 : ¬ qb = eb) (n3 : ¬ b = eb) (n4 : ¬ po = qo + 1) (n5 : ¬ po = o + 4) (n6 : ¬ qo + 1 = o + 4)
    (f1 : w.frozen? ⟨b, o + 4, none⟩ = false) (fe0 : w.frozen? ⟨eb, 0, none⟩ = false) (fe1 : w.frozen? ⟨eb, 1, none⟩ = false) (fe2 : w.frozen? ⟨eb, 2, none⟩ = false) (fp : w.frozen? ⟨pb, po, none⟩ = false) (fq : w.frozen? ⟨qb, qo + 1, none⟩ = false) :
    Calls Try.prog 35 #[pt b o, pt eb 0] w fun e w' => e = .returned (.tuple #[]) ∧ w' = (rmW w b o eb pb po qb qo k).drew.drew := by
  go_enter Try.func35, Try.ntmps35
  go_wp2
  go_region
  go_wp2
  go_region
  go_wp2
  exact bodyPost_end (v := .tuple #[]) (by simp [results, Try.results35]) rfl ⟨rfl, by unfold rmW; rfl⟩

/-- l.Remove(e): e is l's. -/
theorem Remove_any (b o eb pb po qb qo : Nat) (k : Int) (u1 u2 v4 : Value) (w : World)
    (h1 : w.cell? ⟨b, o + 4, none⟩ = some (.int .i64 k)) (hk0 : 0 < k) (hk1 : k < 4611686018427387904) (he0 : w.cell? ⟨eb, 0, none⟩ = some (pt qb qo)) (he1 : w.cell? ⟨eb, 1, none⟩ = some (pt pb po))
    (he2 : w.cell? ⟨eb, 2, none⟩ = some (pt b o)) (he3 : w.cell? ⟨eb, 3, none⟩ = some v4) (hp : w.cell? ⟨pb, po, none⟩ = some u1) (hq : w.cell? ⟨qb, qo + 1, none⟩ = some u2)
    (n1 : ¬ pb = eb) (n2 : ¬ qb = eb) (n3 : ¬ b = eb) (n4 : ¬ po = qo + 1) (n5 : ¬ po = o + 4) (n6 : ¬ qo + 1 = o + 4)
    (f1 : w.frozen? ⟨b, o + 4, none⟩ = false) (fe0 : w.frozen? ⟨eb, 0, none⟩ = false) (fe1 : w.frozen? ⟨eb, 1, none⟩ = false) (fe2 : w.frozen? ⟨eb, 2, none⟩ = false) (fp : w.frozen? ⟨pb, po, none⟩ = false) (fq : w.frozen? ⟨qb, qo + 1, none⟩ = false)
    (hb : PtrOK w b) :
    Calls Try.prog 33 #[pt b o, pt eb 0] w fun e w' => e = .returned v4 ∧ w' = (rmW w b o eb pb po qb qo k).drew.drew := by
  have hn := eql51 (ao := o) (bo := o) hb hb
  rw [decide_eq_true (⟨rfl, rfl⟩ : b = b ∧ o = o)] at hn
  have c3 : ∀ w', w' = (rmW w b o eb pb po qb qo k).drew.drew → w'.cell? ⟨eb, 3, none⟩ = some v4 := by
    intro w' hw
    rw [hw, World.cell?_drew, World.cell?_drew]
    unfold rmW
    rw [cell_other (.inl (fun e => n3 e.symm)), cell_other (.inr (by decide)), cell_other (.inr (by decide)), cell_other (.inr (by decide)), cell_other (.inl (fun e => n2 e.symm)), cell_other (.inl (fun e => n1 e.symm)), he3]
  have HC : Hid (Calls Try.prog 35 #[pt b o, pt eb 0] w fun e w' => e = .returned (.tuple #[]) ∧ w' = (rmW w b o eb pb po qb qo k).drew.drew) := remove_any b o eb pb po qb qo k u1 u2 _ w h1 hk0 hk1 he0 he1 he2 hp hq n1 n2 n3 n4 n5 n6 f1 fe0 fe1 fe2 fp fq
  have C3 : Hid (∀ w', w' = (rmW w b o eb pb po qb qo k).drew.drew → w'.cell? ⟨eb, 3, none⟩ = some v4) := c3
  clear hb c3 h1 hp hq he0 he1 f1 fe0 fe1 fe2 fp fq n4 n5 n6 hk0 hk1
  obtain ⟨w3, hw3⟩ : ∃ w3, w3 = (rmW w b o eb pb po qb qo k).drew.drew := ⟨_, rfl⟩
  rw [← hw3] at HC ⊢
  have c3 := C3.out w3 hw3
  clear C3 hw3
  go_enter Try.func33, Try.ntmps33
  go_wp2_with fail
  refine HC.out.mono ?_
  rintro e w' ⟨rfl, rfl⟩
  go_wp2
  go_ret
  exact ⟨rfl, rfl⟩
end Go.Proofs.Qxb6616981a
