/-
  No cell of these rows narrows 'for every input' (looked for: loops, veiled, ifaces, maps, wideKeys, modest, calm, conditions, laid).
  DERIVED. THE GIVEN ROWS OF THIS SEAT. 1 by the template 'for every input the law returns true; each argument reads behind the call as it read before'; 0 by the template 'total and deterministic' (their statements: Qxb6601804aTotals.lean).
  GIVEN WITH THE SEED: the statements are not yours to turn. If you find one false, say at which input.
  Laid BY PROGRAM, IN A SANDBOX (cutbox-rows.mjs): the forced cells as the released guide's own fill.sh prints them over the translation a3dce68444ad532e… (all of the seat's roots in one cut). By AI agents, Wed Nov 11 2026. No macro, syntax, notation, axiom, sorry.
-/
import Derived.Test.Qxb6601804aChecked
import GoSem.Claim
import GoSem.ClaimJoined
import GoSem.ClaimMapViews
import Derived.JoinedTies
import Derived.KernelRfl
namespace Go.Proofs.Qxb6601804a
/- THE CELL 'sum', in the pinned program and in every row, IS THE sha256 OF THE DUMP (.gsa) THAT Qxb6601804aProg.lean LOADS. Nothing in Lean hashes anything: it is a label: what it is worth is what the hold of that sum in a sandbox is worth. -/
noncomputable def Try.pinned : Pinned := { name := "qxb6601804a", sum := "a3dce68444ad532e0d47322e1f5217437efa6ca4b5263f491d0332587164e32d", checked := Try.checked }
namespace Rows
def none {H : Type} : Left H := { results := [], args := [] }

/-- 'zzlaws_internal_tuple_b1.FnSubjectStringParsesBack': WHATEVER THE INPUT: true; the input reads as it did. -/
def fnSubjectStringParsesBackSpec : ChangeSpec := { name := "fnSubjectStringParsesBack", fn := fun _ => fun
  | [d1, d2, d3] => { results := [.lit (.bool true)], args := [d1, d2, d3] }
  | _ => none }
def fnSubjectStringParsesBackRow : OpenClaim := { program := "qxb6601804a", sum := "a3dce68444ad532e0d47322e1f5217437efa6ca4b5263f491d0332587164e32d", func := "example.com/tuples-to-verdicts/tuples-to-verdicts/zzlaws_internal_tuple_b1.FnSubjectStringParsesBack", spec := "fnSubjectStringParsesBack", apart := false }
def FnSubjectStringParsesBackSaid : Prop := fnSubjectStringParsesBackRow.holds Try.pinned (OpenSpec.ofChange fnSubjectStringParsesBackSpec)

/-- ITS FALSE NEIGHBOUR: 'it returns false'. Refute it at one input. -/
def fnSubjectStringParsesBackWrong : ChangeSpec := { name := "fnSubjectStringParsesBack", fn := fun _ => fun
  | [d1, d2, d3] => { results := [.lit (.bool false)], args := [d1, d2, d3] }
  | _ => none }
def FnSubjectStringParsesBackWrongFalsely : Prop := fnSubjectStringParsesBackRow.holds Try.pinned (OpenSpec.ofChange fnSubjectStringParsesBackWrong)

end Rows
end Go.Proofs.Qxb6601804a
