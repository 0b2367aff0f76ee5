/-
  No cell of these rows narrows 'for every input' (looked for: loops, veiled, ifaces, maps, wideKeys, modest, calm, conditions, laid).
  DERIVED. THE GIVEN ROWS OF THIS SEAT. 2 by the template 'for every input the law returns true; each argument reads behind the call as it read before'; 0 by the template 'total and deterministic' (their statements: Qxb6617174aModsTotals.lean).
  GIVEN WITH THE SEED: the statements are not yours to turn. If you find one false, say at which input.
  Laid BY PROGRAM, IN A SANDBOX (cutbox-rows.mjs): the forced cells as the released guide's own fill.sh prints them over the translation 50ddabfc33a28764… (all of the seat's roots in one cut). By AI agents, Wed Nov 11 2026. No macro, syntax, notation, axiom, sorry.
-/
import Derived.Test.Qxb6617174aModsChecked
import GoSem.Claim
import GoSem.ClaimJoined
import GoSem.ClaimMapViews
import Derived.JoinedTies
import Derived.KernelRfl
namespace Go.Proofs.Qxb6617174aMods
/- THE CELL 'sum', in the pinned program and in every row, IS THE sha256 OF THE DUMP (.gsa) THAT Qxb6617174aModsProg.lean LOADS. Nothing in Lean hashes anything: it is a label: what it is worth is what the hold of that sum in a sandbox is worth. -/
noncomputable def Trym.pinned : Pinned := { name := "qxb6617174amods", sum := "50ddabfc33a28764695e7f2c0c8d4f47ce644577436f95d7abbe6ba2f3ab85b3", checked := Trym.checked }
namespace Rows
def none {H : Type} : Left H := { results := [], args := [] }

/-- 'zzlaws_agentconfig_b1.FnIsToolNameJoinAnyCut': WHATEVER THE INPUT: true; the input reads as it did. -/
def fnIsToolNameJoinAnyCutSpec : ChangeSpec := { name := "fnIsToolNameJoinAnyCut", fn := fun _ => fun
  | [d1, d2] => { results := [.lit (.bool true)], args := [d1, d2] }
  | _ => none }
def fnIsToolNameJoinAnyCutRow : OpenClaim := { program := "qxb6617174amods", sum := "50ddabfc33a28764695e7f2c0c8d4f47ce644577436f95d7abbe6ba2f3ab85b3", func := "example.com/rookery/rookery/zzlaws_agentconfig_b1.FnIsToolNameJoinAnyCut", spec := "fnIsToolNameJoinAnyCut", make := .lifted ["publicsums"], apart := false }
def FnIsToolNameJoinAnyCutSaid : Prop := fnIsToolNameJoinAnyCutRow.holds Trym.pinned (OpenSpec.ofChange fnIsToolNameJoinAnyCutSpec)

/-- ITS FALSE NEIGHBOUR: 'it returns false'. Refute it at one input. -/
def fnIsToolNameJoinAnyCutWrong : ChangeSpec := { name := "fnIsToolNameJoinAnyCut", fn := fun _ => fun
  | [d1, d2] => { results := [.lit (.bool false)], args := [d1, d2] }
  | _ => none }
def FnIsToolNameJoinAnyCutWrongFalsely : Prop := fnIsToolNameJoinAnyCutRow.holds Trym.pinned (OpenSpec.ofChange fnIsToolNameJoinAnyCutWrong)

/-- 'zzlaws_agentconfig_b1.FnDefaultsFreshEachCall': WHATEVER THE INPUT: true; the input reads as it did. -/
def fnDefaultsFreshEachCallSpec : ChangeSpec := { name := "fnDefaultsFreshEachCall", fn := fun _ => fun
  | [] => { results := [.lit (.bool true)], args := [] }
  | _ => none }
def fnDefaultsFreshEachCallRow : OpenClaim := { program := "qxb6617174amods", sum := "50ddabfc33a28764695e7f2c0c8d4f47ce644577436f95d7abbe6ba2f3ab85b3", func := "example.com/rookery/rookery/zzlaws_agentconfig_b1.FnDefaultsFreshEachCall", spec := "fnDefaultsFreshEachCall", make := .lifted ["publicsums"], apart := false }
def FnDefaultsFreshEachCallSaid : Prop := fnDefaultsFreshEachCallRow.holds Trym.pinned (OpenSpec.ofChange fnDefaultsFreshEachCallSpec)

/-- ITS FALSE NEIGHBOUR: 'it returns false'. Refute it at one input. -/
def fnDefaultsFreshEachCallWrong : ChangeSpec := { name := "fnDefaultsFreshEachCall", fn := fun _ => fun
  | [] => { results := [.lit (.bool false)], args := [] }
  | _ => none }
def FnDefaultsFreshEachCallWrongFalsely : Prop := fnDefaultsFreshEachCallRow.holds Trym.pinned (OpenSpec.ofChange fnDefaultsFreshEachCallWrong)

end Rows
end Go.Proofs.Qxb6617174aMods
