/-
  NARROWER THAN 'FOR EVERY INPUT', by the rows' own cells (each row's printed sentence says how): FnCopyLeaseIsAnEqualCopyThatSharesNothing: maps · FnCopyLeaseOfACopyIsAThirdIndependentCopy: maps.
  DERIVED. THE GIVEN ROWS OF THIS SEAT. 2 by the template 'for every input the law returns true; each argument reads behind the call as it read before'; 0 by the template 'total and deterministic' (their statements: Qxb6619094aModsTotals.lean).
  GIVEN WITH THE SEED: the statements are not yours to turn. If you find one false, say at which input.
  Laid BY PROGRAM, IN A SANDBOX (cutbox-rows.mjs): the forced cells as the released guide's own fill.sh prints them over the translation ce9313407fc79a63… (all of the seat's roots in one cut). By AI agents, Wed Nov 11 2026. No macro, syntax, notation, axiom, sorry.
-/
import Derived.Test.Qxb6619094aModsChecked
import GoSem.Claim
import GoSem.ClaimJoined
import GoSem.ClaimMapViews
import Derived.JoinedTies
import Derived.KernelRfl
namespace Go.Proofs.Qxb6619094aMods
/- THE CELL 'sum', in the pinned program and in every row, IS THE sha256 OF THE DUMP (.gsa) THAT Qxb6619094aModsProg.lean LOADS. Nothing in Lean hashes anything: it is a label: what it is worth is what the hold of that sum in a sandbox is worth. -/
noncomputable def Trym.pinned : Pinned := { name := "qxb6619094amods", sum := "ce9313407fc79a63d61f508f9203ba02012dec79ca7ca814e4a892830d79f184", checked := Trym.checked }
namespace Rows
def none {H : Type} : Left H := { results := [], args := [] }

/-- 'zzlaws_memstore_b1.FnCopyLeaseIsAnEqualCopyThatSharesNothing': WHATEVER THE INPUT: true; the input reads as it did. -/
def fnCopyLeaseIsAnEqualCopyThatSharesNothingSpec : ChangeSpec := { name := "fnCopyLeaseIsAnEqualCopyThatSharesNothing", fn := fun _ => fun
  | [d1, d2, d3, d4, d5, d6, d7, d8, d9, d10, d11, d12] => { results := [.lit (.bool true)], args := [d1, d2, d3, d4, d5, d6, d7, d8, d9, d10, d11, d12] }
  | _ => none }
def fnCopyLeaseIsAnEqualCopyThatSharesNothingRow : OpenClaim := { program := "qxb6619094amods", sum := "ce9313407fc79a63d61f508f9203ba02012dec79ca7ca814e4a892830d79f184", func := "example.com/regent/regent/zzlaws_memstore_b1.FnCopyLeaseIsAnEqualCopyThatSharesNothing", spec := "fnCopyLeaseIsAnEqualCopyThatSharesNothing", maps := true, make := .lifted ["publicsums"], apart := false }
def FnCopyLeaseIsAnEqualCopyThatSharesNothingSaid : Prop := fnCopyLeaseIsAnEqualCopyThatSharesNothingRow.holds Trym.pinned (OpenSpec.ofChange fnCopyLeaseIsAnEqualCopyThatSharesNothingSpec)

/-- ITS FALSE NEIGHBOUR: 'it returns false'. Refute it at one input. -/
def fnCopyLeaseIsAnEqualCopyThatSharesNothingWrong : ChangeSpec := { name := "fnCopyLeaseIsAnEqualCopyThatSharesNothing", fn := fun _ => fun
  | [d1, d2, d3, d4, d5, d6, d7, d8, d9, d10, d11, d12] => { results := [.lit (.bool false)], args := [d1, d2, d3, d4, d5, d6, d7, d8, d9, d10, d11, d12] }
  | _ => none }
def FnCopyLeaseIsAnEqualCopyThatSharesNothingWrongFalsely : Prop := fnCopyLeaseIsAnEqualCopyThatSharesNothingRow.holds Trym.pinned (OpenSpec.ofChange fnCopyLeaseIsAnEqualCopyThatSharesNothingWrong)

/-- 'zzlaws_memstore_b1.FnCopyLeaseOfACopyIsAThirdIndependentCopy': WHATEVER THE INPUT: true; the input reads as it did. -/
def fnCopyLeaseOfACopyIsAThirdIndependentCopySpec : ChangeSpec := { name := "fnCopyLeaseOfACopyIsAThirdIndependentCopy", fn := fun _ => fun
  | [d1, d2, d3, d4, d5, d6, d7, d8, d9, d10, d11, d12] => { results := [.lit (.bool true)], args := [d1, d2, d3, d4, d5, d6, d7, d8, d9, d10, d11, d12] }
  | _ => none }
def fnCopyLeaseOfACopyIsAThirdIndependentCopyRow : OpenClaim := { program := "qxb6619094amods", sum := "ce9313407fc79a63d61f508f9203ba02012dec79ca7ca814e4a892830d79f184", func := "example.com/regent/regent/zzlaws_memstore_b1.FnCopyLeaseOfACopyIsAThirdIndependentCopy", spec := "fnCopyLeaseOfACopyIsAThirdIndependentCopy", maps := true, make := .lifted ["publicsums"], apart := false }
def FnCopyLeaseOfACopyIsAThirdIndependentCopySaid : Prop := fnCopyLeaseOfACopyIsAThirdIndependentCopyRow.holds Trym.pinned (OpenSpec.ofChange fnCopyLeaseOfACopyIsAThirdIndependentCopySpec)

/-- ITS FALSE NEIGHBOUR: 'it returns false'. Refute it at one input. -/
def fnCopyLeaseOfACopyIsAThirdIndependentCopyWrong : ChangeSpec := { name := "fnCopyLeaseOfACopyIsAThirdIndependentCopy", fn := fun _ => fun
  | [d1, d2, d3, d4, d5, d6, d7, d8, d9, d10, d11, d12] => { results := [.lit (.bool false)], args := [d1, d2, d3, d4, d5, d6, d7, d8, d9, d10, d11, d12] }
  | _ => none }
def FnCopyLeaseOfACopyIsAThirdIndependentCopyWrongFalsely : Prop := fnCopyLeaseOfACopyIsAThirdIndependentCopyRow.holds Trym.pinned (OpenSpec.ofChange fnCopyLeaseOfACopyIsAThirdIndependentCopyWrong)

end Rows
end Go.Proofs.Qxb6619094aMods
