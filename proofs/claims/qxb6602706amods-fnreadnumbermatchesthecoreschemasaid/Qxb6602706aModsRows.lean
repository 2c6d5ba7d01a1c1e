/-
  No cell of these rows narrows 'for every input' (looked for: loops, veiled, ifaces, maps, wideKeys, modest, calm, conditions, laid).
  DERIVED. THE GIVEN ROWS OF THIS SEAT. 8 by the template 'for every input the law returns true; each argument reads behind the call as it read before'; 0 by the template 'total and deterministic' (their statements: Qxb6602706aModsTotals.lean).
  GIVEN WITH THE SEED: the statements are not yours to turn. If you find one false, say at which input.
  Laid BY PROGRAM, IN A SANDBOX (cutbox-rows.mjs): the forced cells as the released guide's own fill.sh prints them over the translation 4d883f2bcbd6ce3c… (all of the seat's roots in one cut). By AI agents, Wed Nov 11 2026. No macro, syntax, notation, axiom, sorry.
-/
import Derived.Test.Qxb6602706aModsChecked
import GoSem.Claim
import GoSem.ClaimJoined
import GoSem.ClaimMapViews
import Derived.JoinedTies
import Derived.KernelRfl
namespace Go.Proofs.Qxb6602706aMods
/- THE CELL 'sum', in the pinned program and in every row, IS THE sha256 OF THE DUMP (.gsa) THAT Qxb6602706aModsProg.lean LOADS. Nothing in Lean hashes anything: it is a label: what it is worth is what the hold of that sum in a sandbox is worth. -/
noncomputable def Trym.pinned : Pinned := { name := "qxb6602706amods", sum := "4d883f2bcbd6ce3c70b16c84db9eb3179ff98678930cbbcdcfe2be467b87c4d5", checked := Trym.checked }
namespace Rows
def none {H : Type} : Left H := { results := [], args := [] }

/-- 'zzlaws_root_b1.FnDigitsInCountsTheLeadingDigits': WHATEVER THE INPUT: true; the input reads as it did. -/
def fnDigitsInCountsTheLeadingDigitsSpec : ChangeSpec := { name := "fnDigitsInCountsTheLeadingDigits", fn := fun _ => fun
  | [d1, d2] => { results := [.lit (.bool true)], args := [d1, d2] }
  | _ => none }
def fnDigitsInCountsTheLeadingDigitsRow : OpenClaim := { program := "qxb6602706amods", sum := "4d883f2bcbd6ce3c70b16c84db9eb3179ff98678930cbbcdcfe2be467b87c4d5", func := "example.com/uzor/uzor/zzlaws_root_b1.FnDigitsInCountsTheLeadingDigits", spec := "fnDigitsInCountsTheLeadingDigits", make := .lifted ["publicsums"], apart := false }
def FnDigitsInCountsTheLeadingDigitsSaid : Prop := fnDigitsInCountsTheLeadingDigitsRow.holds Trym.pinned (OpenSpec.ofChange fnDigitsInCountsTheLeadingDigitsSpec)

/-- ITS FALSE NEIGHBOUR: 'it returns false'. Refute it at one input. -/
def fnDigitsInCountsTheLeadingDigitsWrong : ChangeSpec := { name := "fnDigitsInCountsTheLeadingDigits", fn := fun _ => fun
  | [d1, d2] => { results := [.lit (.bool false)], args := [d1, d2] }
  | _ => none }
def FnDigitsInCountsTheLeadingDigitsWrongFalsely : Prop := fnDigitsInCountsTheLeadingDigitsRow.holds Trym.pinned (OpenSpec.ofChange fnDigitsInCountsTheLeadingDigitsWrong)

/-- 'zzlaws_root_b1.FnDigitsInGrowsWithTheBase': WHATEVER THE INPUT: true; the input reads as it did. -/
def fnDigitsInGrowsWithTheBaseSpec : ChangeSpec := { name := "fnDigitsInGrowsWithTheBase", fn := fun _ => fun
  | [d1, d2, d3] => { results := [.lit (.bool true)], args := [d1, d2, d3] }
  | _ => none }
def fnDigitsInGrowsWithTheBaseRow : OpenClaim := { program := "qxb6602706amods", sum := "4d883f2bcbd6ce3c70b16c84db9eb3179ff98678930cbbcdcfe2be467b87c4d5", func := "example.com/uzor/uzor/zzlaws_root_b1.FnDigitsInGrowsWithTheBase", spec := "fnDigitsInGrowsWithTheBase", make := .lifted ["publicsums"], apart := false }
def FnDigitsInGrowsWithTheBaseSaid : Prop := fnDigitsInGrowsWithTheBaseRow.holds Trym.pinned (OpenSpec.ofChange fnDigitsInGrowsWithTheBaseSpec)

/-- ITS FALSE NEIGHBOUR: 'it returns false'. Refute it at one input. -/
def fnDigitsInGrowsWithTheBaseWrong : ChangeSpec := { name := "fnDigitsInGrowsWithTheBase", fn := fun _ => fun
  | [d1, d2, d3] => { results := [.lit (.bool false)], args := [d1, d2, d3] }
  | _ => none }
def FnDigitsInGrowsWithTheBaseWrongFalsely : Prop := fnDigitsInGrowsWithTheBaseRow.holds Trym.pinned (OpenSpec.ofChange fnDigitsInGrowsWithTheBaseWrong)

/-- 'zzlaws_root_b1.FnDigitsInSplitsAtAConcatenation': WHATEVER THE INPUT: true; the input reads as it did. -/
def fnDigitsInSplitsAtAConcatenationSpec : ChangeSpec := { name := "fnDigitsInSplitsAtAConcatenation", fn := fun _ => fun
  | [d1, d2, d3] => { results := [.lit (.bool true)], args := [d1, d2, d3] }
  | _ => none }
def fnDigitsInSplitsAtAConcatenationRow : OpenClaim := { program := "qxb6602706amods", sum := "4d883f2bcbd6ce3c70b16c84db9eb3179ff98678930cbbcdcfe2be467b87c4d5", func := "example.com/uzor/uzor/zzlaws_root_b1.FnDigitsInSplitsAtAConcatenation", spec := "fnDigitsInSplitsAtAConcatenation", make := .lifted ["publicsums"], apart := false }
def FnDigitsInSplitsAtAConcatenationSaid : Prop := fnDigitsInSplitsAtAConcatenationRow.holds Trym.pinned (OpenSpec.ofChange fnDigitsInSplitsAtAConcatenationSpec)

/-- ITS FALSE NEIGHBOUR: 'it returns false'. Refute it at one input. -/
def fnDigitsInSplitsAtAConcatenationWrong : ChangeSpec := { name := "fnDigitsInSplitsAtAConcatenation", fn := fun _ => fun
  | [d1, d2, d3] => { results := [.lit (.bool false)], args := [d1, d2, d3] }
  | _ => none }
def FnDigitsInSplitsAtAConcatenationWrongFalsely : Prop := fnDigitsInSplitsAtAConcatenationRow.holds Trym.pinned (OpenSpec.ofChange fnDigitsInSplitsAtAConcatenationWrong)

/-- 'zzlaws_root_b1.FnNextDroppedBytesOnlyEndAReference': WHATEVER THE INPUT: true; the input reads as it did. -/
def fnNextDroppedBytesOnlyEndAReferenceSpec : ChangeSpec := { name := "fnNextDroppedBytesOnlyEndAReference", fn := fun _ => fun
  | [d1, d2, d3, d4] => { results := [.lit (.bool true)], args := [d1, d2, d3, d4] }
  | _ => none }
def fnNextDroppedBytesOnlyEndAReferenceRow : OpenClaim := { program := "qxb6602706amods", sum := "4d883f2bcbd6ce3c70b16c84db9eb3179ff98678930cbbcdcfe2be467b87c4d5", func := "example.com/uzor/uzor/zzlaws_root_b1.FnNextDroppedBytesOnlyEndAReference", spec := "fnNextDroppedBytesOnlyEndAReference", make := .lifted ["publicsums"], apart := false }
def FnNextDroppedBytesOnlyEndAReferenceSaid : Prop := fnNextDroppedBytesOnlyEndAReferenceRow.holds Trym.pinned (OpenSpec.ofChange fnNextDroppedBytesOnlyEndAReferenceSpec)

/-- ITS FALSE NEIGHBOUR: 'it returns false'. Refute it at one input. -/
def fnNextDroppedBytesOnlyEndAReferenceWrong : ChangeSpec := { name := "fnNextDroppedBytesOnlyEndAReference", fn := fun _ => fun
  | [d1, d2, d3, d4] => { results := [.lit (.bool false)], args := [d1, d2, d3, d4] }
  | _ => none }
def FnNextDroppedBytesOnlyEndAReferenceWrongFalsely : Prop := fnNextDroppedBytesOnlyEndAReferenceRow.holds Trym.pinned (OpenSpec.ofChange fnNextDroppedBytesOnlyEndAReferenceWrong)

/-- 'zzlaws_root_b1.FnNextSettlesAtMostOnce': WHATEVER THE INPUT: true; the input reads as it did. -/
def fnNextSettlesAtMostOnceSpec : ChangeSpec := { name := "fnNextSettlesAtMostOnce", fn := fun _ => fun
  | [d1, d2, d3, d4, d5] => { results := [.lit (.bool true)], args := [d1, d2, d3, d4, d5] }
  | _ => none }
def fnNextSettlesAtMostOnceRow : OpenClaim := { program := "qxb6602706amods", sum := "4d883f2bcbd6ce3c70b16c84db9eb3179ff98678930cbbcdcfe2be467b87c4d5", func := "example.com/uzor/uzor/zzlaws_root_b1.FnNextSettlesAtMostOnce", spec := "fnNextSettlesAtMostOnce", make := .lifted ["publicsums"], apart := false }
def FnNextSettlesAtMostOnceSaid : Prop := fnNextSettlesAtMostOnceRow.holds Trym.pinned (OpenSpec.ofChange fnNextSettlesAtMostOnceSpec)

/-- ITS FALSE NEIGHBOUR: 'it returns false'. Refute it at one input. -/
def fnNextSettlesAtMostOnceWrong : ChangeSpec := { name := "fnNextSettlesAtMostOnce", fn := fun _ => fun
  | [d1, d2, d3, d4, d5] => { results := [.lit (.bool false)], args := [d1, d2, d3, d4, d5] }
  | _ => none }
def FnNextSettlesAtMostOnceWrongFalsely : Prop := fnNextSettlesAtMostOnceRow.holds Trym.pinned (OpenSpec.ofChange fnNextSettlesAtMostOnceWrong)

/-- 'zzlaws_root_b1.FnNextKeepsStatesWellFormed': WHATEVER THE INPUT: true; the input reads as it did. -/
def fnNextKeepsStatesWellFormedSpec : ChangeSpec := { name := "fnNextKeepsStatesWellFormed", fn := fun _ => fun
  | [d1, d2, d3, d4, d5] => { results := [.lit (.bool true)], args := [d1, d2, d3, d4, d5] }
  | _ => none }
def fnNextKeepsStatesWellFormedRow : OpenClaim := { program := "qxb6602706amods", sum := "4d883f2bcbd6ce3c70b16c84db9eb3179ff98678930cbbcdcfe2be467b87c4d5", func := "example.com/uzor/uzor/zzlaws_root_b1.FnNextKeepsStatesWellFormed", spec := "fnNextKeepsStatesWellFormed", make := .lifted ["publicsums"], apart := false }
def FnNextKeepsStatesWellFormedSaid : Prop := fnNextKeepsStatesWellFormedRow.holds Trym.pinned (OpenSpec.ofChange fnNextKeepsStatesWellFormedSpec)

/-- ITS FALSE NEIGHBOUR: 'it returns false'. Refute it at one input. -/
def fnNextKeepsStatesWellFormedWrong : ChangeSpec := { name := "fnNextKeepsStatesWellFormed", fn := fun _ => fun
  | [d1, d2, d3, d4, d5] => { results := [.lit (.bool false)], args := [d1, d2, d3, d4, d5] }
  | _ => none }
def FnNextKeepsStatesWellFormedWrongFalsely : Prop := fnNextKeepsStatesWellFormedRow.holds Trym.pinned (OpenSpec.ofChange fnNextKeepsStatesWellFormedWrong)

/-- 'zzlaws_root_b1.FnReadNumberMatchesTheCoreSchema': WHATEVER THE INPUT: true; the input reads as it did. -/
def fnReadNumberMatchesTheCoreSchemaSpec : ChangeSpec := { name := "fnReadNumberMatchesTheCoreSchema", fn := fun _ => fun
  | [d] => { results := [.lit (.bool true)], args := [d] }
  | _ => none }
def fnReadNumberMatchesTheCoreSchemaRow : OpenClaim := { program := "qxb6602706amods", sum := "4d883f2bcbd6ce3c70b16c84db9eb3179ff98678930cbbcdcfe2be467b87c4d5", func := "example.com/uzor/uzor/zzlaws_root_b1.FnReadNumberMatchesTheCoreSchema", spec := "fnReadNumberMatchesTheCoreSchema", make := .lifted ["publicsums"], apart := false }
def FnReadNumberMatchesTheCoreSchemaSaid : Prop := fnReadNumberMatchesTheCoreSchemaRow.holds Trym.pinned (OpenSpec.ofChange fnReadNumberMatchesTheCoreSchemaSpec)

/-- ITS FALSE NEIGHBOUR: 'it returns false'. Refute it at one input. -/
def fnReadNumberMatchesTheCoreSchemaWrong : ChangeSpec := { name := "fnReadNumberMatchesTheCoreSchema", fn := fun _ => fun
  | [d] => { results := [.lit (.bool false)], args := [d] }
  | _ => none }
def FnReadNumberMatchesTheCoreSchemaWrongFalsely : Prop := fnReadNumberMatchesTheCoreSchemaRow.holds Trym.pinned (OpenSpec.ofChange fnReadNumberMatchesTheCoreSchemaWrong)

/-- 'zzlaws_root_b1.FnReadNumberSignOnlySetsNegative': WHATEVER THE INPUT: true; the input reads as it did. -/
def fnReadNumberSignOnlySetsNegativeSpec : ChangeSpec := { name := "fnReadNumberSignOnlySetsNegative", fn := fun _ => fun
  | [d] => { results := [.lit (.bool true)], args := [d] }
  | _ => none }
def fnReadNumberSignOnlySetsNegativeRow : OpenClaim := { program := "qxb6602706amods", sum := "4d883f2bcbd6ce3c70b16c84db9eb3179ff98678930cbbcdcfe2be467b87c4d5", func := "example.com/uzor/uzor/zzlaws_root_b1.FnReadNumberSignOnlySetsNegative", spec := "fnReadNumberSignOnlySetsNegative", make := .lifted ["publicsums"], apart := false }
def FnReadNumberSignOnlySetsNegativeSaid : Prop := fnReadNumberSignOnlySetsNegativeRow.holds Trym.pinned (OpenSpec.ofChange fnReadNumberSignOnlySetsNegativeSpec)

/-- ITS FALSE NEIGHBOUR: 'it returns false'. Refute it at one input. -/
def fnReadNumberSignOnlySetsNegativeWrong : ChangeSpec := { name := "fnReadNumberSignOnlySetsNegative", fn := fun _ => fun
  | [d] => { results := [.lit (.bool false)], args := [d] }
  | _ => none }
def FnReadNumberSignOnlySetsNegativeWrongFalsely : Prop := fnReadNumberSignOnlySetsNegativeRow.holds Trym.pinned (OpenSpec.ofChange fnReadNumberSignOnlySetsNegativeWrong)

end Rows
end Go.Proofs.Qxb6602706aMods
