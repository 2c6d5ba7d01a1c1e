/-
  No cell of these rows narrows 'for every input' (looked for: loops, veiled, ifaces, maps, wideKeys, modest, calm, conditions, laid).
  DERIVED. THE GIVEN ROWS OF THIS SEAT. 4 by the template 'for every input the law returns true; each argument reads behind the call as it read before'; 0 by the template 'total and deterministic' (their statements: Qxb6603160aModsTotals.lean).
  GIVEN WITH THE SEED: the statements are not yours to turn. If you find one false, say at which input.
  Laid BY PROGRAM, IN A SANDBOX (cutbox-rows.mjs): the forced cells as the released guide's own fill.sh prints them over the translation 562f047c024440fc… (all of the seat's roots in one cut). By AI agents, Wed Nov 11 2026. No macro, syntax, notation, axiom, sorry.
-/
import Derived.Test.Qxb6603160aModsChecked
import GoSem.Claim
import GoSem.ClaimJoined
import GoSem.ClaimMapViews
import Derived.JoinedTies
import Derived.KernelRfl
namespace Go.Proofs.Qxb6603160aMods
/- THE CELL 'sum', in the pinned program and in every row, IS THE sha256 OF THE DUMP (.gsa) THAT Qxb6603160aModsProg.lean LOADS. Nothing in Lean hashes anything: it is a label: what it is worth is what the hold of that sum in a sandbox is worth. -/
noncomputable def Trym.pinned : Pinned := { name := "qxb6603160amods", sum := "562f047c024440fc7ddcf244d50c68d3b648d118fe02e3bdd44a175467747988", checked := Trym.checked }
namespace Rows
def none {H : Type} : Left H := { results := [], args := [] }

/-- 'zzlaws_root_b1.FnMarkChildGrantsExact': WHATEVER THE INPUT: true; the input reads as it did. -/
def fnMarkChildGrantsExactSpec : ChangeSpec := { name := "fnMarkChildGrantsExact", fn := fun _ => fun
  | [d1, d2, d3, d4, d5, d6, d7] => { results := [.lit (.bool true)], args := [d1, d2, d3, d4, d5, d6, d7] }
  | _ => none }
def fnMarkChildGrantsExactRow : OpenClaim := { program := "qxb6603160amods", sum := "562f047c024440fc7ddcf244d50c68d3b648d118fe02e3bdd44a175467747988", func := "example.com/latchwork/latchwork/zzlaws_root_b1.FnMarkChildGrantsExact", spec := "fnMarkChildGrantsExact", make := .lifted ["publicsums"], apart := false }
def FnMarkChildGrantsExactSaid : Prop := fnMarkChildGrantsExactRow.holds Trym.pinned (OpenSpec.ofChange fnMarkChildGrantsExactSpec)

/-- ITS FALSE NEIGHBOUR: 'it returns false'. Refute it at one input. -/
def fnMarkChildGrantsExactWrong : ChangeSpec := { name := "fnMarkChildGrantsExact", fn := fun _ => fun
  | [d1, d2, d3, d4, d5, d6, d7] => { results := [.lit (.bool false)], args := [d1, d2, d3, d4, d5, d6, d7] }
  | _ => none }
def FnMarkChildGrantsExactWrongFalsely : Prop := fnMarkChildGrantsExactRow.holds Trym.pinned (OpenSpec.ofChange fnMarkChildGrantsExactWrong)

/-- 'zzlaws_root_b1.FnMarkChildGrantsOrderFree': WHATEVER THE INPUT: true; the input reads as it did. -/
def fnMarkChildGrantsOrderFreeSpec : ChangeSpec := { name := "fnMarkChildGrantsOrderFree", fn := fun _ => fun
  | [d1, d2, d3, d4, d5, d6, d7] => { results := [.lit (.bool true)], args := [d1, d2, d3, d4, d5, d6, d7] }
  | _ => none }
def fnMarkChildGrantsOrderFreeRow : OpenClaim := { program := "qxb6603160amods", sum := "562f047c024440fc7ddcf244d50c68d3b648d118fe02e3bdd44a175467747988", func := "example.com/latchwork/latchwork/zzlaws_root_b1.FnMarkChildGrantsOrderFree", spec := "fnMarkChildGrantsOrderFree", make := .lifted ["publicsums"], apart := false }
def FnMarkChildGrantsOrderFreeSaid : Prop := fnMarkChildGrantsOrderFreeRow.holds Trym.pinned (OpenSpec.ofChange fnMarkChildGrantsOrderFreeSpec)

/-- ITS FALSE NEIGHBOUR: 'it returns false'. Refute it at one input. -/
def fnMarkChildGrantsOrderFreeWrong : ChangeSpec := { name := "fnMarkChildGrantsOrderFree", fn := fun _ => fun
  | [d1, d2, d3, d4, d5, d6, d7] => { results := [.lit (.bool false)], args := [d1, d2, d3, d4, d5, d6, d7] }
  | _ => none }
def FnMarkChildGrantsOrderFreeWrongFalsely : Prop := fnMarkChildGrantsOrderFreeRow.holds Trym.pinned (OpenSpec.ofChange fnMarkChildGrantsOrderFreeWrong)

/-- 'zzlaws_root_b1.FnValidNameMatchesPattern': WHATEVER THE INPUT: true; the input reads as it did. -/
def fnValidNameMatchesPatternSpec : ChangeSpec := { name := "fnValidNameMatchesPattern", fn := fun _ => fun
  | [d] => { results := [.lit (.bool true)], args := [d] }
  | _ => none }
def fnValidNameMatchesPatternRow : OpenClaim := { program := "qxb6603160amods", sum := "562f047c024440fc7ddcf244d50c68d3b648d118fe02e3bdd44a175467747988", func := "example.com/latchwork/latchwork/zzlaws_root_b1.FnValidNameMatchesPattern", spec := "fnValidNameMatchesPattern", make := .lifted ["publicsums"], apart := false }
def FnValidNameMatchesPatternSaid : Prop := fnValidNameMatchesPatternRow.holds Trym.pinned (OpenSpec.ofChange fnValidNameMatchesPatternSpec)

/-- ITS FALSE NEIGHBOUR: 'it returns false'. Refute it at one input. -/
def fnValidNameMatchesPatternWrong : ChangeSpec := { name := "fnValidNameMatchesPattern", fn := fun _ => fun
  | [d] => { results := [.lit (.bool false)], args := [d] }
  | _ => none }
def FnValidNameMatchesPatternWrongFalsely : Prop := fnValidNameMatchesPatternRow.holds Trym.pinned (OpenSpec.ofChange fnValidNameMatchesPatternWrong)

/-- 'zzlaws_root_b1.FnValidNameConcat': WHATEVER THE INPUT: true; the input reads as it did. -/
def fnValidNameConcatSpec : ChangeSpec := { name := "fnValidNameConcat", fn := fun _ => fun
  | [d1, d2] => { results := [.lit (.bool true)], args := [d1, d2] }
  | _ => none }
def fnValidNameConcatRow : OpenClaim := { program := "qxb6603160amods", sum := "562f047c024440fc7ddcf244d50c68d3b648d118fe02e3bdd44a175467747988", func := "example.com/latchwork/latchwork/zzlaws_root_b1.FnValidNameConcat", spec := "fnValidNameConcat", make := .lifted ["publicsums"], apart := false }
def FnValidNameConcatSaid : Prop := fnValidNameConcatRow.holds Trym.pinned (OpenSpec.ofChange fnValidNameConcatSpec)

/-- ITS FALSE NEIGHBOUR: 'it returns false'. Refute it at one input. -/
def fnValidNameConcatWrong : ChangeSpec := { name := "fnValidNameConcat", fn := fun _ => fun
  | [d1, d2] => { results := [.lit (.bool false)], args := [d1, d2] }
  | _ => none }
def FnValidNameConcatWrongFalsely : Prop := fnValidNameConcatRow.holds Trym.pinned (OpenSpec.ofChange fnValidNameConcatWrong)

end Rows
end Go.Proofs.Qxb6603160aMods
