/-
  Maps from bytes to bools, over any program: what a look-up gives, what a store of a new key leaves.
-/
import Derived.WalkKit
import Derived.WalkSpells
import Derived.WalkLawsBesides
import Derived.WideMake
namespace Go.Proofs.Qxb6617836a
open Go.RowKit

def hit (e : MapEntry) (x : Int) : Bool := match e.key with
  | .int _ a => x == a
  | _ => false
def bval (e : MapEntry) : Bool := match e.val with
  | .bool b => b
  | _ => false
def getK : List MapEntry → Int → Option Bool
  | [], _ => none
  | e :: es, x => if hit e x then some (bval e) else getK es x

/-- Entries from bytes to bools. -/
def Plain (es : List MapEntry) : Prop := ∀ e ∈ es, ∃ a b, e.key = .int .u8 a ∧ e.val = .bool b

theorem find_spec (x : Int) : ∀ (es : List MapEntry) (i : Nat), Plain es →
    (∃ j b, Instr.findNow (.int .u8) (.int .u8 x) es i = some (some (j, .bool b)) ∧ getK es x = some b) ∨ (Instr.findNow (.int .u8) (.int .u8 x) es i = some none ∧ getK es x = none)
  | [], _, _ => .inr ⟨rfl, rfl⟩
  | e :: es, i, h => by
    obtain ⟨a, b, hk, hv⟩ := h e (List.mem_cons_self ..)
    have ht : Plain es := fun e' he' => h e' (List.mem_cons_of_mem _ he')
    have hs : Instr.sameNow (.int .u8) (.int .u8 x) e.key = some (x == a) := by rw [hk]; rfl
    have hh : hit e x = (x == a) := by unfold hit; rw [hk]
    have hb : bval e = b := by unfold bval; rw [hv]
    cases hc : (x == a) with
    | true =>
      refine .inl ⟨i, b, ?_, ?_⟩
      · unfold Instr.findNow; rw [hs, hc, hv]
      · unfold getK; rw [hh, hc, hb]; rfl
    | false =>
      rcases find_spec x es (i + 1) ht with ⟨j, b', h1, h2⟩ | ⟨h1, h2⟩
      · refine .inl ⟨j, b', ?_, ?_⟩
        · unfold Instr.findNow; rw [hs, hc]; exact h1
        · unfold getK; rw [hh, hc]; exact h2
      · refine .inr ⟨?_, ?_⟩
        · unfold Instr.findNow; rw [hs, hc]; exact h1
        · unfold getK; rw [hh, hc]; exact h2

section
variable {P : Program} (w : World)

theorem look_run (mty kt et : TypeId) (hm : P.underlying mty = some (.map kt et)) (hk : P.underlying kt = some (.int .u8)) (hz : ∀ w, (zeroValue et).run P w = .ok (.bool false) w)
    (r clock : Nat) (es : Array MapEntry) (hb : w.heap[r]? = some (.map es clock)) (hp : Plain es.toList) (x : Int) (c : Bool) :
    (Instr.lookup mty (.map (some r)) (.int .u8 x) c).run P w = .ok (if c then .tuple #[.bool ((getK es.toList x).getD false), .bool (getK es.toList x).isSome] else .bool ((getK es.toList x).getD false)) w := by
  have hc : ∀ e, (Instr.checkKey e 10000 kt (.int .u8 x)).run P w = .ok () w := fun e => MapKept.run_checkKey (k := .int .u8 x) hk (by simp [MapKept.IsKey]) e 9999
  rcases find_spec x es.toList 0 hp with ⟨j, b, hf, hg⟩ | ⟨hf, hg⟩
  · simp [Instr.lookup, run_underlying hm, MapKept.run_getObj_map hb, hc, MapKept.run_findKey hk hf, hg, Result.andThen]
  · simp [Instr.lookup, run_underlying hm, MapKept.run_getObj_map hb, hc, MapKept.run_findKey hk hf, hg, hz, Result.andThen]

theorem look_nil_run (mty kt et : TypeId) (hm : P.underlying mty = some (.map kt et)) (hk : P.underlying kt = some (.int .u8)) (hz : ∀ w, (zeroValue et).run P w = .ok (.bool false) w) (x : Int) (c : Bool) :
    (Instr.lookup mty (.map none) (.int .u8 x) c).run P w = .ok (if c then .tuple #[.bool false, .bool false] else .bool false) w := by
  have hc : ∀ e, (Instr.checkKey e 10000 kt (.int .u8 x)).run P w = .ok () w := fun e => MapKept.run_checkKey (k := .int .u8 x) hk (by simp [MapKept.IsKey]) e 9999
  have hf : Instr.findNow (.int .u8) (.int .u8 x) ([] : List MapEntry) 0 = some none := rfl
  simp [Instr.lookup, run_underlying hm, hc, MapKept.run_findKey hk hf, hz, Result.andThen]

theorem put_run (mty kt et : TypeId) (hm : P.underlying mty = some (.map kt et)) (hk : P.underlying kt = some (.int .u8))
    (r clock : Nat) (es : Array MapEntry) (hb : w.heap[r]? = some (.map es clock)) (hp : Plain es.toList) (x : Int) (val : Value) (hn : getK es.toList x = none) :
    (Instr.mapUpdate mty (.map (some r)) (.int .u8 x) val).run P w = .ok () { w with heap := w.heap.setIfInBounds r (.map (es.push { key := .int .u8 x, val := val, born := clock }) (clock + 1)) } := by
  have hc : (Instr.checkKey false 10000 kt (.int .u8 x)).run P w = .ok () w := MapKept.run_checkKey (k := .int .u8 x) hk (by simp [MapKept.IsKey]) false 9999
  rcases find_spec x es.toList 0 hp with ⟨j, b, hf, hg⟩ | ⟨hf, hg⟩
  · rw [hn] at hg; cases hg
  · simp [Instr.mapUpdate, run_underlying hm, MapKept.run_getObj_map hb, hc, MapKept.run_findKey hk hf, MapKept.run_setObj_map _ hb, Result.andThen]
end

theorem getK_push (es : List MapEntry) (e : MapEntry) (y : Int) : getK (es ++ [e]) y = match getK es y with | some b => some b | none => if hit e y then some (bval e) else none := by
  induction es with
  | nil => simp [getK]
  | cons f es ih =>
    simp only [List.cons_append, getK]
    split
    · rfl
    · exact ih

/-- A map value that reads as 'mk'. -/
def MapAt (w : World) (v : Value) (mk : Int → Option Bool) : Prop :=
  (v = .map none ∧ ∀ x, mk x = none) ∨ ∃ r es clock, v = .map (some r) ∧ r < w.heap.size ∧ w.heap[r]? = some (.map es clock) ∧ Plain es.toList ∧ ∀ x, getK es.toList x = mk x

theorem MapAt.below {w w' : World} {v : Value} {mk : Int → Option Bool} (h : MapAt w v mk) (hb : Below w.heap.size w w') : MapAt w' v mk := by
  rcases h with h | ⟨r, es, clock, h1, h2, h3, h4, h5⟩
  · exact .inl h
  · exact .inr ⟨r, es, clock, h1, Nat.lt_of_lt_of_le h2 hb.size, by rw [hb.block r h2]; exact h3, h4, h5⟩

theorem MapAt.look {P : Program} {w : World} {v : Value} {mk : Int → Option Bool} (h : MapAt w v mk) (mty kt et : TypeId) (hm : P.underlying mty = some (.map kt et)) (hk : P.underlying kt = some (.int .u8))
    (hz : ∀ w, (zeroValue et).run P w = .ok (.bool false) w) (x : Int) : (Instr.lookup mty v (.int .u8 x) false).run P w = .ok (.bool ((mk x).getD false)) w := by
  rcases h with ⟨rfl, h⟩ | ⟨r, es, clock, rfl, _, h3, h4, h5⟩
  · rw [look_nil_run w mty kt et hm hk hz x false, h x]; rfl
  · rw [look_run w mty kt et hm hk hz r clock es h3 h4 x false, h5 x]; rfl
theorem MapAt.lookOk {P : Program} {w : World} {v : Value} {mk : Int → Option Bool} (h : MapAt w v mk) (mty kt et : TypeId) (hm : P.underlying mty = some (.map kt et)) (hk : P.underlying kt = some (.int .u8))
    (hz : ∀ w, (zeroValue et).run P w = .ok (.bool false) w) (x : Int) : (Instr.lookup mty v (.int .u8 x) true).run P w = .ok (.tuple #[.bool ((mk x).getD false), .bool (mk x).isSome]) w := by
  rcases h with ⟨rfl, h⟩ | ⟨r, es, clock, rfl, _, h3, h4, h5⟩
  · rw [look_nil_run w mty kt et hm hk hz x true, h x]; rfl
  · rw [look_run w mty kt et hm hk hz r clock es h3 h4 x true, h5 x]; rfl

end Go.Proofs.Qxb6617836a
