/-
  No cell of these rows narrows 'for every input' (looked for: loops, veiled, ifaces, maps, wideKeys, modest, calm, conditions, laid).
  DERIVED. THE GIVEN ROWS OF THIS SEAT. 6 by the template 'for every input the law returns true; each argument reads behind the call as it read before'; 0 by the template 'total and deterministic' (their statements: Qxb6600327aTotals.lean).
  GIVEN WITH THE SEED: the statements are not yours to turn. If you find one false, say at which input.
  Laid BY PROGRAM, IN A SANDBOX (cutbox-rows.mjs): the forced cells as the released guide's own fill.sh prints them over the translation 518e7ca0eb7daa62… (all of the seat's roots in one cut). By AI agents, Wed Nov 11 2026. No macro, syntax, notation, axiom, sorry.
-/
import Derived.Test.Qxb6600327aChecked
import GoSem.Claim
import GoSem.ClaimJoined
import GoSem.ClaimMapViews
import Derived.JoinedTies
import Derived.KernelRfl
namespace Go.Proofs.Qxb6600327a
/- THE CELL 'sum', in the pinned program and in every row, IS THE sha256 OF THE DUMP (.gsa) THAT Qxb6600327aProg.lean LOADS. Nothing in Lean hashes anything: it is a label: what it is worth is what the hold of that sum in a sandbox is worth. -/
noncomputable def Try.pinned : Pinned := { name := "qxb6600327a", sum := "518e7ca0eb7daa62cd082b07959725c3182e49f7f22fe9152a7a870554fb752b", checked := Try.checked }
namespace Rows
def none {H : Type} : Left H := { results := [], args := [] }

/-- 'zzlaws_rulebook_b1.FnDroppedEachEndCaseTable': WHATEVER THE INPUT: true; the input reads as it did. -/
def fnDroppedEachEndCaseTableSpec : ChangeSpec := { name := "fnDroppedEachEndCaseTable", fn := fun _ => fun
  | [d1, d2, d3, d4, d5, d6, d7, d8, d9] => { results := [.lit (.bool true)], args := [d1, d2, d3, d4, d5, d6, d7, d8, d9] }
  | _ => none }
def fnDroppedEachEndCaseTableRow : OpenClaim := { program := "qxb6600327a", sum := "518e7ca0eb7daa62cd082b07959725c3182e49f7f22fe9152a7a870554fb752b", func := "example.com/kijun/kijun/zzlaws_rulebook_b1.FnDroppedEachEndCaseTable", spec := "fnDroppedEachEndCaseTable", apart := false }
def FnDroppedEachEndCaseTableSaid : Prop := fnDroppedEachEndCaseTableRow.holds Try.pinned (OpenSpec.ofChange fnDroppedEachEndCaseTableSpec)

/-- ITS FALSE NEIGHBOUR: 'it returns false'. Refute it at one input. -/
def fnDroppedEachEndCaseTableWrong : ChangeSpec := { name := "fnDroppedEachEndCaseTable", fn := fun _ => fun
  | [d1, d2, d3, d4, d5, d6, d7, d8, d9] => { results := [.lit (.bool false)], args := [d1, d2, d3, d4, d5, d6, d7, d8, d9] }
  | _ => none }
def FnDroppedEachEndCaseTableWrongFalsely : Prop := fnDroppedEachEndCaseTableRow.holds Try.pinned (OpenSpec.ofChange fnDroppedEachEndCaseTableWrong)

/-- 'zzlaws_rulebook_b1.FnDroppedEachEndGrowsWithContributors': WHATEVER THE INPUT: true; the input reads as it did. -/
def fnDroppedEachEndGrowsWithContributorsSpec : ChangeSpec := { name := "fnDroppedEachEndGrowsWithContributors", fn := fun _ => fun
  | [d1, d2, d3, d4] => { results := [.lit (.bool true)], args := [d1, d2, d3, d4] }
  | _ => none }
def fnDroppedEachEndGrowsWithContributorsRow : OpenClaim := { program := "qxb6600327a", sum := "518e7ca0eb7daa62cd082b07959725c3182e49f7f22fe9152a7a870554fb752b", func := "example.com/kijun/kijun/zzlaws_rulebook_b1.FnDroppedEachEndGrowsWithContributors", spec := "fnDroppedEachEndGrowsWithContributors", apart := false }
def FnDroppedEachEndGrowsWithContributorsSaid : Prop := fnDroppedEachEndGrowsWithContributorsRow.holds Try.pinned (OpenSpec.ofChange fnDroppedEachEndGrowsWithContributorsSpec)

/-- ITS FALSE NEIGHBOUR: 'it returns false'. Refute it at one input. -/
def fnDroppedEachEndGrowsWithContributorsWrong : ChangeSpec := { name := "fnDroppedEachEndGrowsWithContributors", fn := fun _ => fun
  | [d1, d2, d3, d4] => { results := [.lit (.bool false)], args := [d1, d2, d3, d4] }
  | _ => none }
def FnDroppedEachEndGrowsWithContributorsWrongFalsely : Prop := fnDroppedEachEndGrowsWithContributorsRow.holds Try.pinned (OpenSpec.ofChange fnDroppedEachEndGrowsWithContributorsWrong)

/-- 'zzlaws_rulebook_b1.FnQuorateCaseTable': WHATEVER THE INPUT: true; the input reads as it did. -/
def fnQuorateCaseTableSpec : ChangeSpec := { name := "fnQuorateCaseTable", fn := fun _ => fun
  | [d1, d2, d3, d4, d5, d6] => { results := [.lit (.bool true)], args := [d1, d2, d3, d4, d5, d6] }
  | _ => none }
def fnQuorateCaseTableRow : OpenClaim := { program := "qxb6600327a", sum := "518e7ca0eb7daa62cd082b07959725c3182e49f7f22fe9152a7a870554fb752b", func := "example.com/kijun/kijun/zzlaws_rulebook_b1.FnQuorateCaseTable", spec := "fnQuorateCaseTable", apart := false }
def FnQuorateCaseTableSaid : Prop := fnQuorateCaseTableRow.holds Try.pinned (OpenSpec.ofChange fnQuorateCaseTableSpec)

/-- ITS FALSE NEIGHBOUR: 'it returns false'. Refute it at one input. -/
def fnQuorateCaseTableWrong : ChangeSpec := { name := "fnQuorateCaseTable", fn := fun _ => fun
  | [d1, d2, d3, d4, d5, d6] => { results := [.lit (.bool false)], args := [d1, d2, d3, d4, d5, d6] }
  | _ => none }
def FnQuorateCaseTableWrongFalsely : Prop := fnQuorateCaseTableRow.holds Try.pinned (OpenSpec.ofChange fnQuorateCaseTableWrong)

/-- 'zzlaws_rulebook_b1.FnQuorateGrowsWithContributors': WHATEVER THE INPUT: true; the input reads as it did. -/
def fnQuorateGrowsWithContributorsSpec : ChangeSpec := { name := "fnQuorateGrowsWithContributors", fn := fun _ => fun
  | [d1, d2, d3, d4, d5, d6] => { results := [.lit (.bool true)], args := [d1, d2, d3, d4, d5, d6] }
  | _ => none }
def fnQuorateGrowsWithContributorsRow : OpenClaim := { program := "qxb6600327a", sum := "518e7ca0eb7daa62cd082b07959725c3182e49f7f22fe9152a7a870554fb752b", func := "example.com/kijun/kijun/zzlaws_rulebook_b1.FnQuorateGrowsWithContributors", spec := "fnQuorateGrowsWithContributors", apart := false }
def FnQuorateGrowsWithContributorsSaid : Prop := fnQuorateGrowsWithContributorsRow.holds Try.pinned (OpenSpec.ofChange fnQuorateGrowsWithContributorsSpec)

/-- ITS FALSE NEIGHBOUR: 'it returns false'. Refute it at one input. -/
def fnQuorateGrowsWithContributorsWrong : ChangeSpec := { name := "fnQuorateGrowsWithContributors", fn := fun _ => fun
  | [d1, d2, d3, d4, d5, d6] => { results := [.lit (.bool false)], args := [d1, d2, d3, d4, d5, d6] }
  | _ => none }
def FnQuorateGrowsWithContributorsWrongFalsely : Prop := fnQuorateGrowsWithContributorsRow.holds Try.pinned (OpenSpec.ofChange fnQuorateGrowsWithContributorsWrong)

/-- 'zzlaws_rulebook_b1.FnIsPlainNameByteModel': WHATEVER THE INPUT: true; the input reads as it did. -/
def fnIsPlainNameByteModelSpec : ChangeSpec := { name := "fnIsPlainNameByteModel", fn := fun _ => fun
  | [d] => { results := [.lit (.bool true)], args := [d] }
  | _ => none }
def fnIsPlainNameByteModelRow : OpenClaim := { program := "qxb6600327a", sum := "518e7ca0eb7daa62cd082b07959725c3182e49f7f22fe9152a7a870554fb752b", func := "example.com/kijun/kijun/zzlaws_rulebook_b1.FnIsPlainNameByteModel", spec := "fnIsPlainNameByteModel", apart := false }
def FnIsPlainNameByteModelSaid : Prop := fnIsPlainNameByteModelRow.holds Try.pinned (OpenSpec.ofChange fnIsPlainNameByteModelSpec)

/-- ITS FALSE NEIGHBOUR: 'it returns false'. Refute it at one input. -/
def fnIsPlainNameByteModelWrong : ChangeSpec := { name := "fnIsPlainNameByteModel", fn := fun _ => fun
  | [d] => { results := [.lit (.bool false)], args := [d] }
  | _ => none }
def FnIsPlainNameByteModelWrongFalsely : Prop := fnIsPlainNameByteModelRow.holds Try.pinned (OpenSpec.ofChange fnIsPlainNameByteModelWrong)

/-- 'zzlaws_rulebook_b1.FnIsPlainNameConcat': WHATEVER THE INPUT: true; the input reads as it did. -/
def fnIsPlainNameConcatSpec : ChangeSpec := { name := "fnIsPlainNameConcat", fn := fun _ => fun
  | [d1, d2] => { results := [.lit (.bool true)], args := [d1, d2] }
  | _ => none }
def fnIsPlainNameConcatRow : OpenClaim := { program := "qxb6600327a", sum := "518e7ca0eb7daa62cd082b07959725c3182e49f7f22fe9152a7a870554fb752b", func := "example.com/kijun/kijun/zzlaws_rulebook_b1.FnIsPlainNameConcat", spec := "fnIsPlainNameConcat", apart := false }
def FnIsPlainNameConcatSaid : Prop := fnIsPlainNameConcatRow.holds Try.pinned (OpenSpec.ofChange fnIsPlainNameConcatSpec)

/-- ITS FALSE NEIGHBOUR: 'it returns false'. Refute it at one input. -/
def fnIsPlainNameConcatWrong : ChangeSpec := { name := "fnIsPlainNameConcat", fn := fun _ => fun
  | [d1, d2] => { results := [.lit (.bool false)], args := [d1, d2] }
  | _ => none }
def FnIsPlainNameConcatWrongFalsely : Prop := fnIsPlainNameConcatRow.holds Try.pinned (OpenSpec.ofChange fnIsPlainNameConcatWrong)

end Rows
end Go.Proofs.Qxb6600327a
