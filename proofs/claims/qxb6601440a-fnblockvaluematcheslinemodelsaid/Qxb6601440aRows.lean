/-
  No cell of these rows narrows 'for every input' (looked for: loops, veiled, ifaces, maps, wideKeys, modest, calm, conditions, laid).
  DERIVED. THE GIVEN ROWS OF THIS SEAT. 7 by the template 'for every input the law returns true; each argument reads behind the call as it read before'; 0 by the template 'total and deterministic' (their statements: Qxb6601440aTotals.lean).
  GIVEN WITH THE SEED: the statements are not yours to turn. If you find one false, say at which input.
  Laid BY PROGRAM, IN A SANDBOX (cutbox-rows.mjs): the forced cells as the released guide's own fill.sh prints them over the translation 497452f5a7fe1407… (all of the seat's roots in one cut). By AI agents, Wed Nov 11 2026. No macro, syntax, notation, axiom, sorry.
-/
import Derived.Test.Qxb6601440aChecked
import GoSem.Claim
import GoSem.ClaimJoined
import GoSem.ClaimMapViews
import Derived.JoinedTies
import Derived.KernelRfl
namespace Go.Proofs.Qxb6601440a
/- THE CELL 'sum', in the pinned program and in every row, IS THE sha256 OF THE DUMP (.gsa) THAT Qxb6601440aProg.lean LOADS. Nothing in Lean hashes anything: it is a label: what it is worth is what the hold of that sum in a sandbox is worth. -/
noncomputable def Try.pinned : Pinned := { name := "qxb6601440a", sum := "497452f5a7fe1407d1b82d6473f8ac088a7ef928c9eb52c825cbf848169e9648", checked := Try.checked }
namespace Rows
def none {H : Type} : Left H := { results := [], args := [] }

/-- 'zzlaws_internal_yamlnode_b1.FnBlockValueMatchesLineModel': WHATEVER THE INPUT: true; the input reads as it did. -/
def fnBlockValueMatchesLineModelSpec : ChangeSpec := { name := "fnBlockValueMatchesLineModel", fn := fun _ => fun
  | [d1, d2, d3, d4] => { results := [.lit (.bool true)], args := [d1, d2, d3, d4] }
  | _ => none }
def fnBlockValueMatchesLineModelRow : OpenClaim := { program := "qxb6601440a", sum := "497452f5a7fe1407d1b82d6473f8ac088a7ef928c9eb52c825cbf848169e9648", func := "example.com/restrail/restrail/zzlaws_internal_yamlnode_b1.FnBlockValueMatchesLineModel", spec := "fnBlockValueMatchesLineModel", apart := false }
def FnBlockValueMatchesLineModelSaid : Prop := fnBlockValueMatchesLineModelRow.holds Try.pinned (OpenSpec.ofChange fnBlockValueMatchesLineModelSpec)

/-- ITS FALSE NEIGHBOUR: 'it returns false'. Refute it at one input. -/
def fnBlockValueMatchesLineModelWrong : ChangeSpec := { name := "fnBlockValueMatchesLineModel", fn := fun _ => fun
  | [d1, d2, d3, d4] => { results := [.lit (.bool false)], args := [d1, d2, d3, d4] }
  | _ => none }
def FnBlockValueMatchesLineModelWrongFalsely : Prop := fnBlockValueMatchesLineModelRow.holds Try.pinned (OpenSpec.ofChange fnBlockValueMatchesLineModelWrong)

/-- 'zzlaws_internal_yamlnode_b1.FnBlockValueChompingOnlyAddsBreaks': WHATEVER THE INPUT: true; the input reads as it did. -/
def fnBlockValueChompingOnlyAddsBreaksSpec : ChangeSpec := { name := "fnBlockValueChompingOnlyAddsBreaks", fn := fun _ => fun
  | [d1, d2, d3, d4] => { results := [.lit (.bool true)], args := [d1, d2, d3, d4] }
  | _ => none }
def fnBlockValueChompingOnlyAddsBreaksRow : OpenClaim := { program := "qxb6601440a", sum := "497452f5a7fe1407d1b82d6473f8ac088a7ef928c9eb52c825cbf848169e9648", func := "example.com/restrail/restrail/zzlaws_internal_yamlnode_b1.FnBlockValueChompingOnlyAddsBreaks", spec := "fnBlockValueChompingOnlyAddsBreaks", apart := false }
def FnBlockValueChompingOnlyAddsBreaksSaid : Prop := fnBlockValueChompingOnlyAddsBreaksRow.holds Try.pinned (OpenSpec.ofChange fnBlockValueChompingOnlyAddsBreaksSpec)

/-- ITS FALSE NEIGHBOUR: 'it returns false'. Refute it at one input. -/
def fnBlockValueChompingOnlyAddsBreaksWrong : ChangeSpec := { name := "fnBlockValueChompingOnlyAddsBreaks", fn := fun _ => fun
  | [d1, d2, d3, d4] => { results := [.lit (.bool false)], args := [d1, d2, d3, d4] }
  | _ => none }
def FnBlockValueChompingOnlyAddsBreaksWrongFalsely : Prop := fnBlockValueChompingOnlyAddsBreaksRow.holds Try.pinned (OpenSpec.ofChange fnBlockValueChompingOnlyAddsBreaksWrong)

/-- 'zzlaws_internal_yamlnode_b1.FnBlockValueFoldingNeverLengthens': WHATEVER THE INPUT: true; the input reads as it did. -/
def fnBlockValueFoldingNeverLengthensSpec : ChangeSpec := { name := "fnBlockValueFoldingNeverLengthens", fn := fun _ => fun
  | [d1, d2, d3] => { results := [.lit (.bool true)], args := [d1, d2, d3] }
  | _ => none }
def fnBlockValueFoldingNeverLengthensRow : OpenClaim := { program := "qxb6601440a", sum := "497452f5a7fe1407d1b82d6473f8ac088a7ef928c9eb52c825cbf848169e9648", func := "example.com/restrail/restrail/zzlaws_internal_yamlnode_b1.FnBlockValueFoldingNeverLengthens", spec := "fnBlockValueFoldingNeverLengthens", apart := false }
def FnBlockValueFoldingNeverLengthensSaid : Prop := fnBlockValueFoldingNeverLengthensRow.holds Try.pinned (OpenSpec.ofChange fnBlockValueFoldingNeverLengthensSpec)

/-- ITS FALSE NEIGHBOUR: 'it returns false'. Refute it at one input. -/
def fnBlockValueFoldingNeverLengthensWrong : ChangeSpec := { name := "fnBlockValueFoldingNeverLengthens", fn := fun _ => fun
  | [d1, d2, d3] => { results := [.lit (.bool false)], args := [d1, d2, d3] }
  | _ => none }
def FnBlockValueFoldingNeverLengthensWrongFalsely : Prop := fnBlockValueFoldingNeverLengthensRow.holds Try.pinned (OpenSpec.ofChange fnBlockValueFoldingNeverLengthensWrong)

/-- 'zzlaws_internal_yamlnode_b1.FnIntFormMatchesGrammar': WHATEVER THE INPUT: true; the input reads as it did. -/
def fnIntFormMatchesGrammarSpec : ChangeSpec := { name := "fnIntFormMatchesGrammar", fn := fun _ => fun
  | [d] => { results := [.lit (.bool true)], args := [d] }
  | _ => none }
def fnIntFormMatchesGrammarRow : OpenClaim := { program := "qxb6601440a", sum := "497452f5a7fe1407d1b82d6473f8ac088a7ef928c9eb52c825cbf848169e9648", func := "example.com/restrail/restrail/zzlaws_internal_yamlnode_b1.FnIntFormMatchesGrammar", spec := "fnIntFormMatchesGrammar", apart := false }
def FnIntFormMatchesGrammarSaid : Prop := fnIntFormMatchesGrammarRow.holds Try.pinned (OpenSpec.ofChange fnIntFormMatchesGrammarSpec)

/-- ITS FALSE NEIGHBOUR: 'it returns false'. Refute it at one input. -/
def fnIntFormMatchesGrammarWrong : ChangeSpec := { name := "fnIntFormMatchesGrammar", fn := fun _ => fun
  | [d] => { results := [.lit (.bool false)], args := [d] }
  | _ => none }
def FnIntFormMatchesGrammarWrongFalsely : Prop := fnIntFormMatchesGrammarRow.holds Try.pinned (OpenSpec.ofChange fnIntFormMatchesGrammarWrong)

/-- 'zzlaws_internal_yamlnode_b1.FnIntFormRebuildsValue': WHATEVER THE INPUT: true; the input reads as it did. -/
def fnIntFormRebuildsValueSpec : ChangeSpec := { name := "fnIntFormRebuildsValue", fn := fun _ => fun
  | [d] => { results := [.lit (.bool true)], args := [d] }
  | _ => none }
def fnIntFormRebuildsValueRow : OpenClaim := { program := "qxb6601440a", sum := "497452f5a7fe1407d1b82d6473f8ac088a7ef928c9eb52c825cbf848169e9648", func := "example.com/restrail/restrail/zzlaws_internal_yamlnode_b1.FnIntFormRebuildsValue", spec := "fnIntFormRebuildsValue", apart := false }
def FnIntFormRebuildsValueSaid : Prop := fnIntFormRebuildsValueRow.holds Try.pinned (OpenSpec.ofChange fnIntFormRebuildsValueSpec)

/-- ITS FALSE NEIGHBOUR: 'it returns false'. Refute it at one input. -/
def fnIntFormRebuildsValueWrong : ChangeSpec := { name := "fnIntFormRebuildsValue", fn := fun _ => fun
  | [d] => { results := [.lit (.bool false)], args := [d] }
  | _ => none }
def FnIntFormRebuildsValueWrongFalsely : Prop := fnIntFormRebuildsValueRow.holds Try.pinned (OpenSpec.ofChange fnIntFormRebuildsValueWrong)

/-- 'zzlaws_internal_yamlnode_b1.FnUriCharMatchesTable': WHATEVER THE INPUT: true; the input reads as it did. -/
def fnUriCharMatchesTableSpec : ChangeSpec := { name := "fnUriCharMatchesTable", fn := fun _ => fun
  | [d1, d2] => { results := [.lit (.bool true)], args := [d1, d2] }
  | _ => none }
def fnUriCharMatchesTableRow : OpenClaim := { program := "qxb6601440a", sum := "497452f5a7fe1407d1b82d6473f8ac088a7ef928c9eb52c825cbf848169e9648", func := "example.com/restrail/restrail/zzlaws_internal_yamlnode_b1.FnUriCharMatchesTable", spec := "fnUriCharMatchesTable", apart := false }
def FnUriCharMatchesTableSaid : Prop := fnUriCharMatchesTableRow.holds Try.pinned (OpenSpec.ofChange fnUriCharMatchesTableSpec)

/-- ITS FALSE NEIGHBOUR: 'it returns false'. Refute it at one input. -/
def fnUriCharMatchesTableWrong : ChangeSpec := { name := "fnUriCharMatchesTable", fn := fun _ => fun
  | [d1, d2] => { results := [.lit (.bool false)], args := [d1, d2] }
  | _ => none }
def FnUriCharMatchesTableWrongFalsely : Prop := fnUriCharMatchesTableRow.holds Try.pinned (OpenSpec.ofChange fnUriCharMatchesTableWrong)

/-- 'zzlaws_internal_yamlnode_b1.FnUriCharIsLocalAndBounded': WHATEVER THE INPUT: true; the input reads as it did. -/
def fnUriCharIsLocalAndBoundedSpec : ChangeSpec := { name := "fnUriCharIsLocalAndBounded", fn := fun _ => fun
  | [d1, d2] => { results := [.lit (.bool true)], args := [d1, d2] }
  | _ => none }
def fnUriCharIsLocalAndBoundedRow : OpenClaim := { program := "qxb6601440a", sum := "497452f5a7fe1407d1b82d6473f8ac088a7ef928c9eb52c825cbf848169e9648", func := "example.com/restrail/restrail/zzlaws_internal_yamlnode_b1.FnUriCharIsLocalAndBounded", spec := "fnUriCharIsLocalAndBounded", apart := false }
def FnUriCharIsLocalAndBoundedSaid : Prop := fnUriCharIsLocalAndBoundedRow.holds Try.pinned (OpenSpec.ofChange fnUriCharIsLocalAndBoundedSpec)

/-- ITS FALSE NEIGHBOUR: 'it returns false'. Refute it at one input. -/
def fnUriCharIsLocalAndBoundedWrong : ChangeSpec := { name := "fnUriCharIsLocalAndBounded", fn := fun _ => fun
  | [d1, d2] => { results := [.lit (.bool false)], args := [d1, d2] }
  | _ => none }
def FnUriCharIsLocalAndBoundedWrongFalsely : Prop := fnUriCharIsLocalAndBoundedRow.holds Try.pinned (OpenSpec.ofChange fnUriCharIsLocalAndBoundedWrong)

end Rows
end Go.Proofs.Qxb6601440a
