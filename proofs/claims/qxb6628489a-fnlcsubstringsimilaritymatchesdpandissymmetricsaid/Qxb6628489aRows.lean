/-
  No cell of these rows narrows 'for every input' (looked for: loops, veiled, ifaces, maps, wideKeys, modest, calm, conditions, laid).
  DERIVED. THE GIVEN ROWS OF THIS SEAT. 2 by the template 'for every input the law returns true; each argument reads behind the call as it read before'; 0 by the template 'total and deterministic' (their statements: Qxb6628489aTotals.lean).
  GIVEN WITH THE SEED: the statements are not yours to turn. If you find one false, say at which input.
  Laid BY PROGRAM, IN A SANDBOX (cutbox-rows.mjs): the forced cells as the released guide's own fill.sh prints them over the translation 1c7daec6163e0f80… (all of the seat's roots in one cut). By AI agents, Wed Nov 11 2026. No macro, syntax, notation, axiom, sorry.
-/
import Derived.Test.Qxb6628489aChecked
import GoSem.Claim
import GoSem.ClaimJoined
import GoSem.ClaimMapViews
import Derived.JoinedTies
import Derived.KernelRfl
namespace Go.Proofs.Qxb6628489a
/- THE CELL 'sum', in the pinned program and in every row, IS THE sha256 OF THE DUMP (.gsa) THAT Qxb6628489aProg.lean LOADS. Nothing in Lean hashes anything: it is a label: what it is worth is what the hold of that sum in a sandbox is worth. -/
noncomputable def Try.pinned : Pinned := { name := "qxb6628489a", sum := "1c7daec6163e0f803ba7308eebcc23c7210ee2a8c2a7a78d2143cc347f9d1359", checked := Try.checked }
namespace Rows
def none {H : Type} : Left H := { results := [], args := [] }

/-- 'zzlaws_root_b1.FnLCSubstringSimilarityMatchesDPAndIsSymmetric': WHATEVER THE INPUT: true; the input reads as it did. -/
def fnLCSubstringSimilarityMatchesDPAndIsSymmetricSpec : ChangeSpec := { name := "fnLCSubstringSimilarityMatchesDPAndIsSymmetric", fn := fun _ => fun
  | [d1, d2] => { results := [.lit (.bool true)], args := [d1, d2] }
  | _ => none }
def fnLCSubstringSimilarityMatchesDPAndIsSymmetricRow : OpenClaim := { program := "qxb6628489a", sum := "1c7daec6163e0f803ba7308eebcc23c7210ee2a8c2a7a78d2143cc347f9d1359", func := "example.com/basset/basset/zzlaws_root_b1.FnLCSubstringSimilarityMatchesDPAndIsSymmetric", spec := "fnLCSubstringSimilarityMatchesDPAndIsSymmetric", apart := false }
def FnLCSubstringSimilarityMatchesDPAndIsSymmetricSaid : Prop := fnLCSubstringSimilarityMatchesDPAndIsSymmetricRow.holds Try.pinned (OpenSpec.ofChange fnLCSubstringSimilarityMatchesDPAndIsSymmetricSpec)

/-- ITS FALSE NEIGHBOUR: 'it returns false'. Refute it at one input. -/
def fnLCSubstringSimilarityMatchesDPAndIsSymmetricWrong : ChangeSpec := { name := "fnLCSubstringSimilarityMatchesDPAndIsSymmetric", fn := fun _ => fun
  | [d1, d2] => { results := [.lit (.bool false)], args := [d1, d2] }
  | _ => none }
def FnLCSubstringSimilarityMatchesDPAndIsSymmetricWrongFalsely : Prop := fnLCSubstringSimilarityMatchesDPAndIsSymmetricRow.holds Try.pinned (OpenSpec.ofChange fnLCSubstringSimilarityMatchesDPAndIsSymmetricWrong)

/-- 'zzlaws_root_b1.FnLCSubstringSimilarityPartAgainstWhole': WHATEVER THE INPUT: true; the input reads as it did. -/
def fnLCSubstringSimilarityPartAgainstWholeSpec : ChangeSpec := { name := "fnLCSubstringSimilarityPartAgainstWhole", fn := fun _ => fun
  | [d1, d2] => { results := [.lit (.bool true)], args := [d1, d2] }
  | _ => none }
def fnLCSubstringSimilarityPartAgainstWholeRow : OpenClaim := { program := "qxb6628489a", sum := "1c7daec6163e0f803ba7308eebcc23c7210ee2a8c2a7a78d2143cc347f9d1359", func := "example.com/basset/basset/zzlaws_root_b1.FnLCSubstringSimilarityPartAgainstWhole", spec := "fnLCSubstringSimilarityPartAgainstWhole", apart := false }
def FnLCSubstringSimilarityPartAgainstWholeSaid : Prop := fnLCSubstringSimilarityPartAgainstWholeRow.holds Try.pinned (OpenSpec.ofChange fnLCSubstringSimilarityPartAgainstWholeSpec)

/-- ITS FALSE NEIGHBOUR: 'it returns false'. Refute it at one input. -/
def fnLCSubstringSimilarityPartAgainstWholeWrong : ChangeSpec := { name := "fnLCSubstringSimilarityPartAgainstWhole", fn := fun _ => fun
  | [d1, d2] => { results := [.lit (.bool false)], args := [d1, d2] }
  | _ => none }
def FnLCSubstringSimilarityPartAgainstWholeWrongFalsely : Prop := fnLCSubstringSimilarityPartAgainstWholeRow.holds Try.pinned (OpenSpec.ofChange fnLCSubstringSimilarityPartAgainstWholeWrong)

end Rows
end Go.Proofs.Qxb6628489a
