/-
  No cell of these rows narrows 'for every input' (looked for: loops, veiled, ifaces, maps, wideKeys, modest, calm, conditions, laid).
  DERIVED. THE GIVEN ROWS OF THIS SEAT. 2 by the template 'for every input the law returns true; each argument reads behind the call as it read before'; 0 by the template 'total and deterministic' (their statements: Qxb6628447aTotals.lean).
  GIVEN WITH THE SEED: the statements are not yours to turn. If you find one false, say at which input.
  Laid BY PROGRAM, IN A SANDBOX (cutbox-rows.mjs): the forced cells as the released guide's own fill.sh prints them over the translation 4f09a197f502aed5… (all of the seat's roots in one cut). By AI agents, Wed Nov 11 2026. No macro, syntax, notation, axiom, sorry.
-/
import Derived.Test.Qxb6628447aChecked
import GoSem.Claim
import GoSem.ClaimJoined
import GoSem.ClaimMapViews
import Derived.JoinedTies
import Derived.KernelRfl
namespace Go.Proofs.Qxb6628447a
/- THE CELL 'sum', in the pinned program and in every row, IS THE sha256 OF THE DUMP (.gsa) THAT Qxb6628447aProg.lean LOADS. Nothing in Lean hashes anything: it is a label: what it is worth is what the hold of that sum in a sandbox is worth. -/
noncomputable def Try.pinned : Pinned := { name := "qxb6628447a", sum := "4f09a197f502aed584c6a62bbc5b421f0c1d68a4543b7907af38513c03b6de95", checked := Try.checked }
namespace Rows
def none {H : Type} : Left H := { results := [], args := [] }

/-- 'zzlaws_scope_b1.FnReachesInsertAnywhere': WHATEVER THE INPUT: true; the input reads as it did. -/
def fnReachesInsertAnywhereSpec : ChangeSpec := { name := "fnReachesInsertAnywhere", fn := fun _ => fun
  | [d1, d2, d3, d4] => { results := [.lit (.bool true)], args := [d1, d2, d3, d4] }
  | _ => none }
def fnReachesInsertAnywhereRow : OpenClaim := { program := "qxb6628447a", sum := "4f09a197f502aed584c6a62bbc5b421f0c1d68a4543b7907af38513c03b6de95", func := "example.com/ufunguo/ufunguo/zzlaws_scope_b1.FnReachesInsertAnywhere", spec := "fnReachesInsertAnywhere", apart := false }
def FnReachesInsertAnywhereSaid : Prop := fnReachesInsertAnywhereRow.holds Try.pinned (OpenSpec.ofChange fnReachesInsertAnywhereSpec)

/-- ITS FALSE NEIGHBOUR: 'it returns false'. Refute it at one input. -/
def fnReachesInsertAnywhereWrong : ChangeSpec := { name := "fnReachesInsertAnywhere", fn := fun _ => fun
  | [d1, d2, d3, d4] => { results := [.lit (.bool false)], args := [d1, d2, d3, d4] }
  | _ => none }
def FnReachesInsertAnywhereWrongFalsely : Prop := fnReachesInsertAnywhereRow.holds Try.pinned (OpenSpec.ofChange fnReachesInsertAnywhereWrong)

/-- 'zzlaws_scope_b1.FnReachesJoinAnyCut': WHATEVER THE INPUT: true; the input reads as it did. -/
def fnReachesJoinAnyCutSpec : ChangeSpec := { name := "fnReachesJoinAnyCut", fn := fun _ => fun
  | [d1, d2, d3] => { results := [.lit (.bool true)], args := [d1, d2, d3] }
  | _ => none }
def fnReachesJoinAnyCutRow : OpenClaim := { program := "qxb6628447a", sum := "4f09a197f502aed584c6a62bbc5b421f0c1d68a4543b7907af38513c03b6de95", func := "example.com/ufunguo/ufunguo/zzlaws_scope_b1.FnReachesJoinAnyCut", spec := "fnReachesJoinAnyCut", apart := false }
def FnReachesJoinAnyCutSaid : Prop := fnReachesJoinAnyCutRow.holds Try.pinned (OpenSpec.ofChange fnReachesJoinAnyCutSpec)

/-- ITS FALSE NEIGHBOUR: 'it returns false'. Refute it at one input. -/
def fnReachesJoinAnyCutWrong : ChangeSpec := { name := "fnReachesJoinAnyCut", fn := fun _ => fun
  | [d1, d2, d3] => { results := [.lit (.bool false)], args := [d1, d2, d3] }
  | _ => none }
def FnReachesJoinAnyCutWrongFalsely : Prop := fnReachesJoinAnyCutRow.holds Try.pinned (OpenSpec.ofChange fnReachesJoinAnyCutWrong)

end Rows
end Go.Proofs.Qxb6628447a
