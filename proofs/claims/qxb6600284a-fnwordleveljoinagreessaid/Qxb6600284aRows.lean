/-
  No cell of these rows narrows 'for every input' (looked for: loops, veiled, ifaces, maps, wideKeys, modest, calm, conditions, laid).
  DERIVED. THE GIVEN ROWS OF THIS SEAT. 8 by the template 'for every input the law returns true; each argument reads behind the call as it read before'; 0 by the template 'total and deterministic' (their statements: Qxb6600284aTotals.lean).
  GIVEN WITH THE SEED: the statements are not yours to turn. If you find one false, say at which input.
  Laid BY PROGRAM, IN A SANDBOX (cutbox-rows.mjs): the forced cells as the released guide's own fill.sh prints them over the translation a423ae4681c9a8b9… (all of the seat's roots in one cut). By AI agents, Wed Nov 11 2026. No macro, syntax, notation, axiom, sorry.
-/
import Derived.Test.Qxb6600284aChecked
import GoSem.Claim
import GoSem.ClaimJoined
import GoSem.ClaimMapViews
import Derived.JoinedTies
import Derived.KernelRfl
namespace Go.Proofs.Qxb6600284a
/- THE CELL 'sum', in the pinned program and in every row, IS THE sha256 OF THE DUMP (.gsa) THAT Qxb6600284aProg.lean LOADS. Nothing in Lean hashes anything: it is a label: what it is worth is what the hold of that sum in a sandbox is worth. -/
noncomputable def Try.pinned : Pinned := { name := "qxb6600284a", sum := "a423ae4681c9a8b9a8fbef98fed8871255fa8a3fb7c29b46286777aea9eec49f", checked := Try.checked }
namespace Rows
def none {H : Type} : Left H := { results := [], args := [] }

/-- 'zzlaws_root_b1.FnSeekWordCountsWordsBelow': WHATEVER THE INPUT: true; the input reads as it did. -/
def fnSeekWordCountsWordsBelowSpec : ChangeSpec := { name := "fnSeekWordCountsWordsBelow", fn := fun _ => fun
  | [d1, d2] => { results := [.lit (.bool true)], args := [d1, d2] }
  | _ => none }
def fnSeekWordCountsWordsBelowRow : OpenClaim := { program := "qxb6600284a", sum := "a423ae4681c9a8b9a8fbef98fed8871255fa8a3fb7c29b46286777aea9eec49f", func := "example.com/bare-policy/bare-policy/zzlaws_root_b1.FnSeekWordCountsWordsBelow", spec := "fnSeekWordCountsWordsBelow", apart := false }
def FnSeekWordCountsWordsBelowSaid : Prop := fnSeekWordCountsWordsBelowRow.holds Try.pinned (OpenSpec.ofChange fnSeekWordCountsWordsBelowSpec)

/-- ITS FALSE NEIGHBOUR: 'it returns false'. Refute it at one input. -/
def fnSeekWordCountsWordsBelowWrong : ChangeSpec := { name := "fnSeekWordCountsWordsBelow", fn := fun _ => fun
  | [d1, d2] => { results := [.lit (.bool false)], args := [d1, d2] }
  | _ => none }
def FnSeekWordCountsWordsBelowWrongFalsely : Prop := fnSeekWordCountsWordsBelowRow.holds Try.pinned (OpenSpec.ofChange fnSeekWordCountsWordsBelowWrong)

/-- 'zzlaws_root_b1.FnSeekWordMonotone': WHATEVER THE INPUT: true; the input reads as it did. -/
def fnSeekWordMonotoneSpec : ChangeSpec := { name := "fnSeekWordMonotone", fn := fun _ => fun
  | [d1, d2, d3] => { results := [.lit (.bool true)], args := [d1, d2, d3] }
  | _ => none }
def fnSeekWordMonotoneRow : OpenClaim := { program := "qxb6600284a", sum := "a423ae4681c9a8b9a8fbef98fed8871255fa8a3fb7c29b46286777aea9eec49f", func := "example.com/bare-policy/bare-policy/zzlaws_root_b1.FnSeekWordMonotone", spec := "fnSeekWordMonotone", apart := false }
def FnSeekWordMonotoneSaid : Prop := fnSeekWordMonotoneRow.holds Try.pinned (OpenSpec.ofChange fnSeekWordMonotoneSpec)

/-- ITS FALSE NEIGHBOUR: 'it returns false'. Refute it at one input. -/
def fnSeekWordMonotoneWrong : ChangeSpec := { name := "fnSeekWordMonotone", fn := fun _ => fun
  | [d1, d2, d3] => { results := [.lit (.bool false)], args := [d1, d2, d3] }
  | _ => none }
def FnSeekWordMonotoneWrongFalsely : Prop := fnSeekWordMonotoneRow.holds Try.pinned (OpenSpec.ofChange fnSeekWordMonotoneWrong)

/-- 'zzlaws_root_b1.FnSeekWordFindsEachWord': WHATEVER THE INPUT: true; the input reads as it did. -/
def fnSeekWordFindsEachWordSpec : ChangeSpec := { name := "fnSeekWordFindsEachWord", fn := fun _ => fun
  | [d] => { results := [.lit (.bool true)], args := [d] }
  | _ => none }
def fnSeekWordFindsEachWordRow : OpenClaim := { program := "qxb6600284a", sum := "a423ae4681c9a8b9a8fbef98fed8871255fa8a3fb7c29b46286777aea9eec49f", func := "example.com/bare-policy/bare-policy/zzlaws_root_b1.FnSeekWordFindsEachWord", spec := "fnSeekWordFindsEachWord", apart := false }
def FnSeekWordFindsEachWordSaid : Prop := fnSeekWordFindsEachWordRow.holds Try.pinned (OpenSpec.ofChange fnSeekWordFindsEachWordSpec)

/-- ITS FALSE NEIGHBOUR: 'it returns false'. Refute it at one input. -/
def fnSeekWordFindsEachWordWrong : ChangeSpec := { name := "fnSeekWordFindsEachWord", fn := fun _ => fun
  | [d] => { results := [.lit (.bool false)], args := [d] }
  | _ => none }
def FnSeekWordFindsEachWordWrongFalsely : Prop := fnSeekWordFindsEachWordRow.holds Try.pinned (OpenSpec.ofChange fnSeekWordFindsEachWordWrong)

/-- 'zzlaws_root_b1.FnWordLevelLaysBoundWords': WHATEVER THE INPUT: true; the input reads as it did. -/
def fnWordLevelLaysBoundWordsSpec : ChangeSpec := { name := "fnWordLevelLaysBoundWords", fn := fun _ => fun
  | [d1, d2, d3, d4, d5] => { results := [.lit (.bool true)], args := [d1, d2, d3, d4, d5] }
  | _ => none }
def fnWordLevelLaysBoundWordsRow : OpenClaim := { program := "qxb6600284a", sum := "a423ae4681c9a8b9a8fbef98fed8871255fa8a3fb7c29b46286777aea9eec49f", func := "example.com/bare-policy/bare-policy/zzlaws_root_b1.FnWordLevelLaysBoundWords", spec := "fnWordLevelLaysBoundWords", apart := false }
def FnWordLevelLaysBoundWordsSaid : Prop := fnWordLevelLaysBoundWordsRow.holds Try.pinned (OpenSpec.ofChange fnWordLevelLaysBoundWordsSpec)

/-- ITS FALSE NEIGHBOUR: 'it returns false'. Refute it at one input. -/
def fnWordLevelLaysBoundWordsWrong : ChangeSpec := { name := "fnWordLevelLaysBoundWords", fn := fun _ => fun
  | [d1, d2, d3, d4, d5] => { results := [.lit (.bool false)], args := [d1, d2, d3, d4, d5] }
  | _ => none }
def FnWordLevelLaysBoundWordsWrongFalsely : Prop := fnWordLevelLaysBoundWordsRow.holds Try.pinned (OpenSpec.ofChange fnWordLevelLaysBoundWordsWrong)

/-- 'zzlaws_root_b1.FnJoinIsUnionOfWords': WHATEVER THE INPUT: true; the input reads as it did. -/
def fnJoinIsUnionOfWordsSpec : ChangeSpec := { name := "fnJoinIsUnionOfWords", fn := fun _ => fun
  | [d1, d2, d3, d4, d5, d6] => { results := [.lit (.bool true)], args := [d1, d2, d3, d4, d5, d6] }
  | _ => none }
def fnJoinIsUnionOfWordsRow : OpenClaim := { program := "qxb6600284a", sum := "a423ae4681c9a8b9a8fbef98fed8871255fa8a3fb7c29b46286777aea9eec49f", func := "example.com/bare-policy/bare-policy/zzlaws_root_b1.FnJoinIsUnionOfWords", spec := "fnJoinIsUnionOfWords", apart := false }
def FnJoinIsUnionOfWordsSaid : Prop := fnJoinIsUnionOfWordsRow.holds Try.pinned (OpenSpec.ofChange fnJoinIsUnionOfWordsSpec)

/-- ITS FALSE NEIGHBOUR: 'it returns false'. Refute it at one input. -/
def fnJoinIsUnionOfWordsWrong : ChangeSpec := { name := "fnJoinIsUnionOfWords", fn := fun _ => fun
  | [d1, d2, d3, d4, d5, d6] => { results := [.lit (.bool false)], args := [d1, d2, d3, d4, d5, d6] }
  | _ => none }
def FnJoinIsUnionOfWordsWrongFalsely : Prop := fnJoinIsUnionOfWordsRow.holds Try.pinned (OpenSpec.ofChange fnJoinIsUnionOfWordsWrong)

/-- 'zzlaws_root_b1.FnJoinCommutes': WHATEVER THE INPUT: true; the input reads as it did. -/
def fnJoinCommutesSpec : ChangeSpec := { name := "fnJoinCommutes", fn := fun _ => fun
  | [d1, d2, d3, d4, d5, d6] => { results := [.lit (.bool true)], args := [d1, d2, d3, d4, d5, d6] }
  | _ => none }
def fnJoinCommutesRow : OpenClaim := { program := "qxb6600284a", sum := "a423ae4681c9a8b9a8fbef98fed8871255fa8a3fb7c29b46286777aea9eec49f", func := "example.com/bare-policy/bare-policy/zzlaws_root_b1.FnJoinCommutes", spec := "fnJoinCommutes", apart := false }
def FnJoinCommutesSaid : Prop := fnJoinCommutesRow.holds Try.pinned (OpenSpec.ofChange fnJoinCommutesSpec)

/-- ITS FALSE NEIGHBOUR: 'it returns false'. Refute it at one input. -/
def fnJoinCommutesWrong : ChangeSpec := { name := "fnJoinCommutes", fn := fun _ => fun
  | [d1, d2, d3, d4, d5, d6] => { results := [.lit (.bool false)], args := [d1, d2, d3, d4, d5, d6] }
  | _ => none }
def FnJoinCommutesWrongFalsely : Prop := fnJoinCommutesRow.holds Try.pinned (OpenSpec.ofChange fnJoinCommutesWrong)

/-- 'zzlaws_root_b1.FnJoinAssociative': WHATEVER THE INPUT: true; the input reads as it did. -/
def fnJoinAssociativeSpec : ChangeSpec := { name := "fnJoinAssociative", fn := fun _ => fun
  | [d1, d2, d3, d4, d5, d6, d7, d8, d9] => { results := [.lit (.bool true)], args := [d1, d2, d3, d4, d5, d6, d7, d8, d9] }
  | _ => none }
def fnJoinAssociativeRow : OpenClaim := { program := "qxb6600284a", sum := "a423ae4681c9a8b9a8fbef98fed8871255fa8a3fb7c29b46286777aea9eec49f", func := "example.com/bare-policy/bare-policy/zzlaws_root_b1.FnJoinAssociative", spec := "fnJoinAssociative", apart := false }
def FnJoinAssociativeSaid : Prop := fnJoinAssociativeRow.holds Try.pinned (OpenSpec.ofChange fnJoinAssociativeSpec)

/-- ITS FALSE NEIGHBOUR: 'it returns false'. Refute it at one input. -/
def fnJoinAssociativeWrong : ChangeSpec := { name := "fnJoinAssociative", fn := fun _ => fun
  | [d1, d2, d3, d4, d5, d6, d7, d8, d9] => { results := [.lit (.bool false)], args := [d1, d2, d3, d4, d5, d6, d7, d8, d9] }
  | _ => none }
def FnJoinAssociativeWrongFalsely : Prop := fnJoinAssociativeRow.holds Try.pinned (OpenSpec.ofChange fnJoinAssociativeWrong)

/-- 'zzlaws_root_b1.FnWordLevelJoinAgrees': WHATEVER THE INPUT: true; the input reads as it did. -/
def fnWordLevelJoinAgreesSpec : ChangeSpec := { name := "fnWordLevelJoinAgrees", fn := fun _ => fun
  | [d1, d2, d3, d4, d5, d6, d7] => { results := [.lit (.bool true)], args := [d1, d2, d3, d4, d5, d6, d7] }
  | _ => none }
def fnWordLevelJoinAgreesRow : OpenClaim := { program := "qxb6600284a", sum := "a423ae4681c9a8b9a8fbef98fed8871255fa8a3fb7c29b46286777aea9eec49f", func := "example.com/bare-policy/bare-policy/zzlaws_root_b1.FnWordLevelJoinAgrees", spec := "fnWordLevelJoinAgrees", apart := false }
def FnWordLevelJoinAgreesSaid : Prop := fnWordLevelJoinAgreesRow.holds Try.pinned (OpenSpec.ofChange fnWordLevelJoinAgreesSpec)

/-- ITS FALSE NEIGHBOUR: 'it returns false'. Refute it at one input. -/
def fnWordLevelJoinAgreesWrong : ChangeSpec := { name := "fnWordLevelJoinAgrees", fn := fun _ => fun
  | [d1, d2, d3, d4, d5, d6, d7] => { results := [.lit (.bool false)], args := [d1, d2, d3, d4, d5, d6, d7] }
  | _ => none }
def FnWordLevelJoinAgreesWrongFalsely : Prop := fnWordLevelJoinAgreesRow.holds Try.pinned (OpenSpec.ofChange fnWordLevelJoinAgreesWrong)

end Rows
end Go.Proofs.Qxb6600284a
