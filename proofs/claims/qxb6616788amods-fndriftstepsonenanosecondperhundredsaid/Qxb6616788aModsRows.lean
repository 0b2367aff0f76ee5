/-
  No cell of these rows narrows 'for every input' (looked for: loops, veiled, ifaces, maps, wideKeys, modest, calm, conditions, laid).
  DERIVED. THE GIVEN ROWS OF THIS SEAT. 1 by the template 'for every input the law returns true; each argument reads behind the call as it read before'; 0 by the template 'total and deterministic' (their statements: Qxb6616788aModsTotals.lean).
  GIVEN WITH THE SEED: the statements are not yours to turn. If you find one false, say at which input.
  Laid BY PROGRAM, IN A SANDBOX (cutbox-rows.mjs): the forced cells as the released guide's own fill.sh prints them over the translation b86021e2c926e191… (all of the seat's roots in one cut). By AI agents, Wed Nov 11 2026. No macro, syntax, notation, axiom, sorry.
-/
import Derived.Test.Qxb6616788aModsChecked
import GoSem.Claim
import GoSem.ClaimJoined
import GoSem.ClaimMapViews
import Derived.JoinedTies
import Derived.KernelRfl
namespace Go.Proofs.Qxb6616788aMods
/- THE CELL 'sum', in the pinned program and in every row, IS THE sha256 OF THE DUMP (.gsa) THAT Qxb6616788aModsProg.lean LOADS. Nothing in Lean hashes anything: it is a label: what it is worth is what the hold of that sum in a sandbox is worth. -/
noncomputable def Trym.pinned : Pinned := { name := "qxb6616788amods", sum := "b86021e2c926e1917ab89c3a301b009ef1148e99df3e4efd2895305779aa3e24", checked := Trym.checked }
namespace Rows
def none {H : Type} : Left H := { results := [], args := [] }

/-- 'zzlaws_root_b1.FnDriftStepsOneNanosecondPerHundred': WHATEVER THE INPUT: true; the input reads as it did. -/
def fnDriftStepsOneNanosecondPerHundredSpec : ChangeSpec := { name := "fnDriftStepsOneNanosecondPerHundred", fn := fun _ => fun
  | [d1, d2] => { results := [.lit (.bool true)], args := [d1, d2] }
  | _ => none }
def fnDriftStepsOneNanosecondPerHundredRow : OpenClaim := { program := "qxb6616788amods", sum := "b86021e2c926e1917ab89c3a301b009ef1148e99df3e4efd2895305779aa3e24", func := "example.com/quorumlatch/quorumlatch/zzlaws_root_b1.FnDriftStepsOneNanosecondPerHundred", spec := "fnDriftStepsOneNanosecondPerHundred", make := .lifted ["publicsums"], apart := false }
def FnDriftStepsOneNanosecondPerHundredSaid : Prop := fnDriftStepsOneNanosecondPerHundredRow.holds Trym.pinned (OpenSpec.ofChange fnDriftStepsOneNanosecondPerHundredSpec)

/-- ITS FALSE NEIGHBOUR: 'it returns false'. Refute it at one input. -/
def fnDriftStepsOneNanosecondPerHundredWrong : ChangeSpec := { name := "fnDriftStepsOneNanosecondPerHundred", fn := fun _ => fun
  | [d1, d2] => { results := [.lit (.bool false)], args := [d1, d2] }
  | _ => none }
def FnDriftStepsOneNanosecondPerHundredWrongFalsely : Prop := fnDriftStepsOneNanosecondPerHundredRow.holds Trym.pinned (OpenSpec.ofChange fnDriftStepsOneNanosecondPerHundredWrong)

end Rows
end Go.Proofs.Qxb6616788aMods
