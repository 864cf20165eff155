/-
  No cell of these rows narrows 'for every input' (looked for: loops, veiled, ifaces, maps, wideKeys, modest, calm, conditions, laid).
  DERIVED. THE GIVEN ROWS OF THIS SEAT. 2 by the template 'for every input the law returns true; each argument reads behind the call as it read before'; 0 by the template 'total and deterministic' (their statements: Qxb6629008aTotals.lean).
  GIVEN WITH THE SEED: the statements are not yours to turn. If you find one false, say at which input.
  Laid BY PROGRAM, IN A SANDBOX (cutbox-rows.mjs): the forced cells as the released guide's own fill.sh prints them over the translation 2dc68e0312b0b6ae… (all of the seat's roots in one cut). By AI agents, Wed Nov 11 2026. No macro, syntax, notation, axiom, sorry.
-/
import Derived.Test.Qxb6629008aChecked
import GoSem.Claim
import GoSem.ClaimJoined
import GoSem.ClaimMapViews
import Derived.JoinedTies
import Derived.KernelRfl
namespace Go.Proofs.Qxb6629008a
/- THE CELL 'sum', in the pinned program and in every row, IS THE sha256 OF THE DUMP (.gsa) THAT Qxb6629008aProg.lean LOADS. Nothing in Lean hashes anything: it is a label: what it is worth is what the hold of that sum in a sandbox is worth. -/
noncomputable def Try.pinned : Pinned := { name := "qxb6629008a", sum := "2dc68e0312b0b6ae45a6ac824b8772f48904456168f0eb3f018e12b788541bdf", checked := Try.checked }
namespace Rows
def none {H : Type} : Left H := { results := [], args := [] }

/-- 'zzlaws_internal_flat_b1.FnCutDefaultSplitsAtFirstFreeColon': WHATEVER THE INPUT: true; the input reads as it did. -/
def fnCutDefaultSplitsAtFirstFreeColonSpec : ChangeSpec := { name := "fnCutDefaultSplitsAtFirstFreeColon", fn := fun _ => fun
  | [d] => { results := [.lit (.bool true)], args := [d] }
  | _ => none }
def fnCutDefaultSplitsAtFirstFreeColonRow : OpenClaim := { program := "qxb6629008a", sum := "2dc68e0312b0b6ae45a6ac824b8772f48904456168f0eb3f018e12b788541bdf", func := "example.com/quartermaster/quartermaster/zzlaws_internal_flat_b1.FnCutDefaultSplitsAtFirstFreeColon", spec := "fnCutDefaultSplitsAtFirstFreeColon", apart := false }
def FnCutDefaultSplitsAtFirstFreeColonSaid : Prop := fnCutDefaultSplitsAtFirstFreeColonRow.holds Try.pinned (OpenSpec.ofChange fnCutDefaultSplitsAtFirstFreeColonSpec)

/-- ITS FALSE NEIGHBOUR: 'it returns false'. Refute it at one input. -/
def fnCutDefaultSplitsAtFirstFreeColonWrong : ChangeSpec := { name := "fnCutDefaultSplitsAtFirstFreeColon", fn := fun _ => fun
  | [d] => { results := [.lit (.bool false)], args := [d] }
  | _ => none }
def FnCutDefaultSplitsAtFirstFreeColonWrongFalsely : Prop := fnCutDefaultSplitsAtFirstFreeColonRow.holds Try.pinned (OpenSpec.ofChange fnCutDefaultSplitsAtFirstFreeColonWrong)

/-- 'zzlaws_internal_flat_b1.FnCutDefaultOverConcatenation': WHATEVER THE INPUT: true; the input reads as it did. -/
def fnCutDefaultOverConcatenationSpec : ChangeSpec := { name := "fnCutDefaultOverConcatenation", fn := fun _ => fun
  | [d1, d2] => { results := [.lit (.bool true)], args := [d1, d2] }
  | _ => none }
def fnCutDefaultOverConcatenationRow : OpenClaim := { program := "qxb6629008a", sum := "2dc68e0312b0b6ae45a6ac824b8772f48904456168f0eb3f018e12b788541bdf", func := "example.com/quartermaster/quartermaster/zzlaws_internal_flat_b1.FnCutDefaultOverConcatenation", spec := "fnCutDefaultOverConcatenation", apart := false }
def FnCutDefaultOverConcatenationSaid : Prop := fnCutDefaultOverConcatenationRow.holds Try.pinned (OpenSpec.ofChange fnCutDefaultOverConcatenationSpec)

/-- ITS FALSE NEIGHBOUR: 'it returns false'. Refute it at one input. -/
def fnCutDefaultOverConcatenationWrong : ChangeSpec := { name := "fnCutDefaultOverConcatenation", fn := fun _ => fun
  | [d1, d2] => { results := [.lit (.bool false)], args := [d1, d2] }
  | _ => none }
def FnCutDefaultOverConcatenationWrongFalsely : Prop := fnCutDefaultOverConcatenationRow.holds Try.pinned (OpenSpec.ofChange fnCutDefaultOverConcatenationWrong)

end Rows
end Go.Proofs.Qxb6629008a
