/-
  No cell of these rows narrows 'for every input' (looked for: loops, veiled, ifaces, maps, wideKeys, modest, calm, conditions, laid).
  DERIVED. THE GIVEN ROWS OF THIS SEAT. 1 by the template 'for every input the law returns true; each argument reads behind the call as it read before'; 0 by the template 'total and deterministic' (their statements: Qxb6603120aModsTotals.lean).
  GIVEN WITH THE SEED: the statements are not yours to turn. If you find one false, say at which input.
  Laid BY PROGRAM, IN A SANDBOX (cutbox-rows.mjs): the forced cells as the released guide's own fill.sh prints them over the translation 844826664a74e600… (all of the seat's roots in one cut). By AI agents, Wed Nov 11 2026. No macro, syntax, notation, axiom, sorry.
-/
import Derived.Test.Qxb6603120aModsChecked
import GoSem.Claim
import GoSem.ClaimJoined
import GoSem.ClaimMapViews
import Derived.JoinedTies
import Derived.KernelRfl
namespace Go.Proofs.Qxb6603120aMods
/- THE CELL 'sum', in the pinned program and in every row, IS THE sha256 OF THE DUMP (.gsa) THAT Qxb6603120aModsProg.lean LOADS. Nothing in Lean hashes anything: it is a label: what it is worth is what the hold of that sum in a sandbox is worth. -/
noncomputable def Trym.pinned : Pinned := { name := "qxb6603120amods", sum := "844826664a74e6002fe48713856014d58a41875381549fc14a7a2af514405ef4", checked := Trym.checked }
namespace Rows
def none {H : Type} : Left H := { results := [], args := [] }

/-- 'zzlaws_root_b1.FnBindersLenConcatAdditive': WHATEVER THE INPUT: true; the input reads as it did. -/
def fnBindersLenConcatAdditiveSpec : ChangeSpec := { name := "fnBindersLenConcatAdditive", fn := fun _ => fun
  | [d1, d2] => { results := [.lit (.bool true)], args := [d1, d2] }
  | _ => none }
def fnBindersLenConcatAdditiveRow : OpenClaim := { program := "qxb6603120amods", sum := "844826664a74e6002fe48713856014d58a41875381549fc14a7a2af514405ef4", func := "example.com/nacre/nacre/zzlaws_root_b1.FnBindersLenConcatAdditive", spec := "fnBindersLenConcatAdditive", make := .lifted ["publicsums"], apart := false }
def FnBindersLenConcatAdditiveSaid : Prop := fnBindersLenConcatAdditiveRow.holds Trym.pinned (OpenSpec.ofChange fnBindersLenConcatAdditiveSpec)

/-- ITS FALSE NEIGHBOUR: 'it returns false'. Refute it at one input. -/
def fnBindersLenConcatAdditiveWrong : ChangeSpec := { name := "fnBindersLenConcatAdditive", fn := fun _ => fun
  | [d1, d2] => { results := [.lit (.bool false)], args := [d1, d2] }
  | _ => none }
def FnBindersLenConcatAdditiveWrongFalsely : Prop := fnBindersLenConcatAdditiveRow.holds Trym.pinned (OpenSpec.ofChange fnBindersLenConcatAdditiveWrong)

end Rows
end Go.Proofs.Qxb6603120aMods
