/-
  No cell of these rows narrows 'for every input' (looked for: loops, veiled, ifaces, maps, wideKeys, modest, calm, conditions, laid).
  DERIVED. THE GIVEN ROWS OF THIS SEAT. 4 by the template 'for every input the law returns true; each argument reads behind the call as it read before'; 0 by the template 'total and deterministic' (their statements: Qxb6602683aModsTotals.lean).
  GIVEN WITH THE SEED: the statements are not yours to turn. If you find one false, say at which input.
  Laid BY PROGRAM, IN A SANDBOX (cutbox-rows.mjs): the forced cells as the released guide's own fill.sh prints them over the translation cbd905902e0075a5… (all of the seat's roots in one cut). By AI agents, Wed Nov 11 2026. No macro, syntax, notation, axiom, sorry.
-/
import Derived.Test.Qxb6602683aModsChecked
import GoSem.Claim
import GoSem.ClaimJoined
import GoSem.ClaimMapViews
import Derived.JoinedTies
import Derived.KernelRfl
namespace Go.Proofs.Qxb6602683aMods
/- THE CELL 'sum', in the pinned program and in every row, IS THE sha256 OF THE DUMP (.gsa) THAT Qxb6602683aModsProg.lean LOADS. Nothing in Lean hashes anything: it is a label: what it is worth is what the hold of that sum in a sandbox is worth. -/
noncomputable def Trym.pinned : Pinned := { name := "qxb6602683amods", sum := "cbd905902e0075a5c88dbfbe18e98d32525e4ad0f7dfa712b75fd41fa327fecc", checked := Trym.checked }
namespace Rows
def none {H : Type} : Left H := { results := [], args := [] }

/-- 'zzlaws_root_b1.FnIsLabelMatchesAutomaton': WHATEVER THE INPUT: true; the input reads as it did. -/
def fnIsLabelMatchesAutomatonSpec : ChangeSpec := { name := "fnIsLabelMatchesAutomaton", fn := fun _ => fun
  | [d] => { results := [.lit (.bool true)], args := [d] }
  | _ => none }
def fnIsLabelMatchesAutomatonRow : OpenClaim := { program := "qxb6602683amods", sum := "cbd905902e0075a5c88dbfbe18e98d32525e4ad0f7dfa712b75fd41fa327fecc", func := "example.com/leasekey/leasekey/zzlaws_root_b1.FnIsLabelMatchesAutomaton", spec := "fnIsLabelMatchesAutomaton", unfollowed := true, recurses := true, make := .lifted ["publicsums"], apart := false }
def FnIsLabelMatchesAutomatonSaid : Prop := fnIsLabelMatchesAutomatonRow.holds Trym.pinned (OpenSpec.ofChange fnIsLabelMatchesAutomatonSpec)

/-- ITS FALSE NEIGHBOUR: 'it returns false'. Refute it at one input. -/
def fnIsLabelMatchesAutomatonWrong : ChangeSpec := { name := "fnIsLabelMatchesAutomaton", fn := fun _ => fun
  | [d] => { results := [.lit (.bool false)], args := [d] }
  | _ => none }
def FnIsLabelMatchesAutomatonWrongFalsely : Prop := fnIsLabelMatchesAutomatonRow.holds Trym.pinned (OpenSpec.ofChange fnIsLabelMatchesAutomatonWrong)

/-- 'zzlaws_root_b1.FnIsLabelReverseJoinAndEdges': WHATEVER THE INPUT: true; the input reads as it did. -/
def fnIsLabelReverseJoinAndEdgesSpec : ChangeSpec := { name := "fnIsLabelReverseJoinAndEdges", fn := fun _ => fun
  | [d1, d2] => { results := [.lit (.bool true)], args := [d1, d2] }
  | _ => none }
def fnIsLabelReverseJoinAndEdgesRow : OpenClaim := { program := "qxb6602683amods", sum := "cbd905902e0075a5c88dbfbe18e98d32525e4ad0f7dfa712b75fd41fa327fecc", func := "example.com/leasekey/leasekey/zzlaws_root_b1.FnIsLabelReverseJoinAndEdges", spec := "fnIsLabelReverseJoinAndEdges", unfollowed := true, recurses := true, make := .lifted ["publicsums"], apart := false }
def FnIsLabelReverseJoinAndEdgesSaid : Prop := fnIsLabelReverseJoinAndEdgesRow.holds Trym.pinned (OpenSpec.ofChange fnIsLabelReverseJoinAndEdgesSpec)

/-- ITS FALSE NEIGHBOUR: 'it returns false'. Refute it at one input. -/
def fnIsLabelReverseJoinAndEdgesWrong : ChangeSpec := { name := "fnIsLabelReverseJoinAndEdges", fn := fun _ => fun
  | [d1, d2] => { results := [.lit (.bool false)], args := [d1, d2] }
  | _ => none }
def FnIsLabelReverseJoinAndEdgesWrongFalsely : Prop := fnIsLabelReverseJoinAndEdgesRow.holds Trym.pinned (OpenSpec.ofChange fnIsLabelReverseJoinAndEdgesWrong)

/-- 'zzlaws_root_b1.FnLowerASCIIIdempotentAndFixedPoints': WHATEVER THE INPUT: true; the input reads as it did. -/
def fnLowerASCIIIdempotentAndFixedPointsSpec : ChangeSpec := { name := "fnLowerASCIIIdempotentAndFixedPoints", fn := fun _ => fun
  | [d] => { results := [.lit (.bool true)], args := [d] }
  | _ => none }
def fnLowerASCIIIdempotentAndFixedPointsRow : OpenClaim := { program := "qxb6602683amods", sum := "cbd905902e0075a5c88dbfbe18e98d32525e4ad0f7dfa712b75fd41fa327fecc", func := "example.com/leasekey/leasekey/zzlaws_root_b1.FnLowerASCIIIdempotentAndFixedPoints", spec := "fnLowerASCIIIdempotentAndFixedPoints", make := .lifted ["publicsums"], apart := false }
def FnLowerASCIIIdempotentAndFixedPointsSaid : Prop := fnLowerASCIIIdempotentAndFixedPointsRow.holds Trym.pinned (OpenSpec.ofChange fnLowerASCIIIdempotentAndFixedPointsSpec)

/-- ITS FALSE NEIGHBOUR: 'it returns false'. Refute it at one input. -/
def fnLowerASCIIIdempotentAndFixedPointsWrong : ChangeSpec := { name := "fnLowerASCIIIdempotentAndFixedPoints", fn := fun _ => fun
  | [d] => { results := [.lit (.bool false)], args := [d] }
  | _ => none }
def FnLowerASCIIIdempotentAndFixedPointsWrongFalsely : Prop := fnLowerASCIIIdempotentAndFixedPointsRow.holds Trym.pinned (OpenSpec.ofChange fnLowerASCIIIdempotentAndFixedPointsWrong)

/-- 'zzlaws_root_b1.FnLowerASCIIDistributesOverConcat': WHATEVER THE INPUT: true; the input reads as it did. -/
def fnLowerASCIIDistributesOverConcatSpec : ChangeSpec := { name := "fnLowerASCIIDistributesOverConcat", fn := fun _ => fun
  | [d1, d2] => { results := [.lit (.bool true)], args := [d1, d2] }
  | _ => none }
def fnLowerASCIIDistributesOverConcatRow : OpenClaim := { program := "qxb6602683amods", sum := "cbd905902e0075a5c88dbfbe18e98d32525e4ad0f7dfa712b75fd41fa327fecc", func := "example.com/leasekey/leasekey/zzlaws_root_b1.FnLowerASCIIDistributesOverConcat", spec := "fnLowerASCIIDistributesOverConcat", make := .lifted ["publicsums"], apart := false }
def FnLowerASCIIDistributesOverConcatSaid : Prop := fnLowerASCIIDistributesOverConcatRow.holds Trym.pinned (OpenSpec.ofChange fnLowerASCIIDistributesOverConcatSpec)

/-- ITS FALSE NEIGHBOUR: 'it returns false'. Refute it at one input. -/
def fnLowerASCIIDistributesOverConcatWrong : ChangeSpec := { name := "fnLowerASCIIDistributesOverConcat", fn := fun _ => fun
  | [d1, d2] => { results := [.lit (.bool false)], args := [d1, d2] }
  | _ => none }
def FnLowerASCIIDistributesOverConcatWrongFalsely : Prop := fnLowerASCIIDistributesOverConcatRow.holds Trym.pinned (OpenSpec.ofChange fnLowerASCIIDistributesOverConcatWrong)

end Rows
end Go.Proofs.Qxb6602683aMods
