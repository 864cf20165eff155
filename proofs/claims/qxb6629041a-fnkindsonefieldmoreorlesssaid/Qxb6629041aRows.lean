/-
  No cell of these rows narrows 'for every input' (looked for: loops, veiled, ifaces, maps, wideKeys, modest, calm, conditions, laid).
  DERIVED. THE GIVEN ROWS OF THIS SEAT. 2 by the template 'for every input the law returns true; each argument reads behind the call as it read before'; 0 by the template 'total and deterministic' (their statements: Qxb6629041aTotals.lean).
  GIVEN WITH THE SEED: the statements are not yours to turn. If you find one false, say at which input.
  Laid BY PROGRAM, IN A SANDBOX (cutbox-rows.mjs): the forced cells as the released guide's own fill.sh prints them over the translation ed74e6f402b8ceff… (all of the seat's roots in one cut). By AI agents, Wed Nov 11 2026. No macro, syntax, notation, axiom, sorry.
-/
import Derived.Test.Qxb6629041aChecked
import GoSem.Claim
import GoSem.ClaimJoined
import GoSem.ClaimMapViews
import Derived.JoinedTies
import Derived.KernelRfl
namespace Go.Proofs.Qxb6629041a
/- THE CELL 'sum', in the pinned program and in every row, IS THE sha256 OF THE DUMP (.gsa) THAT Qxb6629041aProg.lean LOADS. Nothing in Lean hashes anything: it is a label: what it is worth is what the hold of that sum in a sandbox is worth. -/
noncomputable def Try.pinned : Pinned := { name := "qxb6629041a", sum := "ed74e6f402b8ceff013c3d766406a28b3959ee8f37c8eea8067d2d9de7d4b076", checked := Try.checked }
namespace Rows
def none {H : Type} : Left H := { results := [], args := [] }

/-- 'zzlaws_pkg_agreement_b1.FnKindsUnionMeetAndComplement': WHATEVER THE INPUT: true; the input reads as it did. -/
def fnKindsUnionMeetAndComplementSpec : ChangeSpec := { name := "fnKindsUnionMeetAndComplement", fn := fun _ => fun
  | [d1, d2, d3, d4, d5, d6, d7, d8, d9, d10] => { results := [.lit (.bool true)], args := [d1, d2, d3, d4, d5, d6, d7, d8, d9, d10] }
  | _ => none }
def fnKindsUnionMeetAndComplementRow : OpenClaim := { program := "qxb6629041a", sum := "ed74e6f402b8ceff013c3d766406a28b3959ee8f37c8eea8067d2d9de7d4b076", func := "example.com/orderwright/orderwright/zzlaws_pkg_agreement_b1.FnKindsUnionMeetAndComplement", spec := "fnKindsUnionMeetAndComplement", apart := false }
def FnKindsUnionMeetAndComplementSaid : Prop := fnKindsUnionMeetAndComplementRow.holds Try.pinned (OpenSpec.ofChange fnKindsUnionMeetAndComplementSpec)

/-- ITS FALSE NEIGHBOUR: 'it returns false'. Refute it at one input. -/
def fnKindsUnionMeetAndComplementWrong : ChangeSpec := { name := "fnKindsUnionMeetAndComplement", fn := fun _ => fun
  | [d1, d2, d3, d4, d5, d6, d7, d8, d9, d10] => { results := [.lit (.bool false)], args := [d1, d2, d3, d4, d5, d6, d7, d8, d9, d10] }
  | _ => none }
def FnKindsUnionMeetAndComplementWrongFalsely : Prop := fnKindsUnionMeetAndComplementRow.holds Try.pinned (OpenSpec.ofChange fnKindsUnionMeetAndComplementWrong)

/-- 'zzlaws_pkg_agreement_b1.FnKindsOneFieldMoreOrLess': WHATEVER THE INPUT: true; the input reads as it did. -/
def fnKindsOneFieldMoreOrLessSpec : ChangeSpec := { name := "fnKindsOneFieldMoreOrLess", fn := fun _ => fun
  | [d1, d2, d3, d4, d5, d6] => { results := [.lit (.bool true)], args := [d1, d2, d3, d4, d5, d6] }
  | _ => none }
def fnKindsOneFieldMoreOrLessRow : OpenClaim := { program := "qxb6629041a", sum := "ed74e6f402b8ceff013c3d766406a28b3959ee8f37c8eea8067d2d9de7d4b076", func := "example.com/orderwright/orderwright/zzlaws_pkg_agreement_b1.FnKindsOneFieldMoreOrLess", spec := "fnKindsOneFieldMoreOrLess", apart := false }
def FnKindsOneFieldMoreOrLessSaid : Prop := fnKindsOneFieldMoreOrLessRow.holds Try.pinned (OpenSpec.ofChange fnKindsOneFieldMoreOrLessSpec)

/-- ITS FALSE NEIGHBOUR: 'it returns false'. Refute it at one input. -/
def fnKindsOneFieldMoreOrLessWrong : ChangeSpec := { name := "fnKindsOneFieldMoreOrLess", fn := fun _ => fun
  | [d1, d2, d3, d4, d5, d6] => { results := [.lit (.bool false)], args := [d1, d2, d3, d4, d5, d6] }
  | _ => none }
def FnKindsOneFieldMoreOrLessWrongFalsely : Prop := fnKindsOneFieldMoreOrLessRow.holds Try.pinned (OpenSpec.ofChange fnKindsOneFieldMoreOrLessWrong)

end Rows
end Go.Proofs.Qxb6629041a
