import Derived.Test.Qxb6629041aRows
import Derived.WalkKit
import Derived.WalkLawsBesides
import Derived.WalkSpells
import Derived.Deep.DeepCutAuto
namespace Go.Proofs.Qxb6629041a
open Go.RowKit

/-- A message whose five fields are set where the flags say. -/
def IsMsg (pp pr co vc nv : Bool) (v : Value) : Prop :=
  ∃ o0 o1 o2 o3 o4 : Option Addr, v = .agg #[.pointer o0, .pointer o1, .pointer o2, .pointer o3, .pointer o4] ∧ o0.isSome = pp ∧ o1.isSome = pr ∧ o2.isSome = co ∧ o3.isSome = vc ∧ o4.isSome = nv
def MsgPost (pp pr co vc nv : Bool) (w : World) (e : Ending) (w' : World) : Prop := (∃ v, e = .returned v ∧ IsMsg pp pr co vc nv v) ∧ Below w.heap.size w w'

set_option maxRecDepth 100000 in
set_option maxHeartbeats 8000000 in
theorem msg_any (pp pr co vc nv : Bool) (w : World) : Calls Try.prog 5 #[.bool pp, .bool pr, .bool co, .bool vc, .bool nv] w (MsgPost pp pr co vc nv w) := by
  cases pp <;> cases pr <;> cases co <;> cases vc <;> cases nv
  all_goals
    go_enter Try.func5, Try.ntmps5
    go_wp2
    refine ⟨rfl, ?_⟩
    refine ⟨_, (by simp [results, Try.results5, go_sem]; exact ⟨rfl, rfl, rfl, rfl, rfl⟩), ⟨_, rfl, _, _, _, _, _, rfl, rfl, rfl, rfl, rfl, rfl⟩, ?_⟩
    repeat (first | exact Below.refl _ _ | refine Below.alloc ?_ (by simp; try omega) _)

end Go.Proofs.Qxb6629041a
