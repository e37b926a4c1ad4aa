/-
  A call of a method of bySize through an interface that holds a *bySize: the receiver is loaded.
-/
import Derived.Test.Qxb6616981aGrow
import Derived.Test.Qxb6616981aSize
namespace Go.Proofs.Qxb6616981a
open Go.RowKit
set_option maxRecDepth 100000
set_option maxHeartbeats 4000000

theorem und69 : Try.prog.underlying 69 = some (.pointer 56) := by kernel_rfl
theorem find69 {name : String} {f : FuncId} (h : (Try.prog.info? 69).bind (fun i => (i.methods.find? (·.name == name)).map (fun m => (m.path, m.func))) = some (#[], some (f, false))) :
    ∃ i m, Try.prog.info? 69 = some i ∧ i.methods.find? (·.name == name) = some m ∧ m.path = #[] ∧ m.func = some (f, false) := by
  obtain ⟨i, hi, h2⟩ := Option.bind_eq_some_iff.1 h
  obtain ⟨m, hm, h3⟩ := Option.map_eq_some_iff.1 h2
  rw [Prod.mk.injEq] at h3
  exact ⟨i, m, hi, hm, h3.1, h3.2⟩

theorem nilchk (hb ho : Nat) (s : String) (w : World) : (Builtin.ssaWrapNilChk_ #[69] 69 #[pt hb ho, strVal "", strVal s]).run Try.prog w = .ok (pt hb ho) w := rfl

theorem meth_run {name : String} {f : FuncId} (h0 : (Try.prog.info? 69).bind (fun i => (i.methods.find? (·.name == name)).map (fun m => (m.path, m.func))) = some (#[], some (f, false))) (hb ho : Nat) (v : Value) (w : World) (h : w.cell? ⟨hb, ho, none⟩ = some v) :
    (method 205 69 (pt hb ho) name).run Try.prog w = .ok (f, v) w := by
  obtain ⟨i, m, hi, hm, hp, hf⟩ := find69 h0
  unfold method
  simp [typeInfo, hi, hm, hp, hf, follow, receiverAt, run_underlying und69, Place.get, nilchk, loadVar, asAddr, h]

theorem mLen : (Try.prog.info? 69).bind (fun i => (i.methods.find? (·.name == "Len")).map (fun m => (m.path, m.func))) = some (#[], some (54, false)) := by kernel_rfl
theorem mLess : (Try.prog.info? 69).bind (fun i => (i.methods.find? (·.name == "Less")).map (fun m => (m.path, m.func))) = some (#[], some (55, false)) := by kernel_rfl
theorem mSwap : (Try.prog.info? 69).bind (fun i => (i.methods.find? (·.name == "Swap")).map (fun m => (m.path, m.func))) = some (#[], some (56, false)) := by kernel_rfl
end Go.Proofs.Qxb6616981a
