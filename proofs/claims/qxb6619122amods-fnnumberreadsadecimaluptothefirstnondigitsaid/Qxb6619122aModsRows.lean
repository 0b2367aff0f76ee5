/-
  No cell of these rows narrows 'for every input' (looked for: loops, veiled, ifaces, maps, wideKeys, modest, calm, conditions, laid).
  DERIVED. THE GIVEN ROWS OF THIS SEAT. 2 by the template 'for every input the law returns true; each argument reads behind the call as it read before'; 0 by the template 'total and deterministic' (their statements: Qxb6619122aModsTotals.lean).
  GIVEN WITH THE SEED: the statements are not yours to turn. If you find one false, say at which input.
  Laid BY PROGRAM, IN A SANDBOX (cutbox-rows.mjs): the forced cells as the released guide's own fill.sh prints them over the translation 1c093a1f937ca5cd… (all of the seat's roots in one cut). By AI agents, Wed Nov 11 2026. No macro, syntax, notation, axiom, sorry.
-/
import Derived.Test.Qxb6619122aModsChecked
import GoSem.Claim
import GoSem.ClaimJoined
import GoSem.ClaimMapViews
import Derived.JoinedTies
import Derived.KernelRfl
namespace Go.Proofs.Qxb6619122aMods
/- THE CELL 'sum', in the pinned program and in every row, IS THE sha256 OF THE DUMP (.gsa) THAT Qxb6619122aModsProg.lean LOADS. Nothing in Lean hashes anything: it is a label: what it is worth is what the hold of that sum in a sandbox is worth. -/
noncomputable def Trym.pinned : Pinned := { name := "qxb6619122amods", sum := "1c093a1f937ca5cde64acd41aac3937d33f89d02dc375e5bfc20b82b21bcf691", checked := Trym.checked }
namespace Rows
def none {H : Type} : Left H := { results := [], args := [] }

/-- 'zzlaws_sim_b1.FnNumberReadsTheCanonicalLeadingNumeral': WHATEVER THE INPUT: true; the input reads as it did. -/
def fnNumberReadsTheCanonicalLeadingNumeralSpec : ChangeSpec := { name := "fnNumberReadsTheCanonicalLeadingNumeral", fn := fun _ => fun
  | [d] => { results := [.lit (.bool true)], args := [d] }
  | _ => none }
def fnNumberReadsTheCanonicalLeadingNumeralRow : OpenClaim := { program := "qxb6619122amods", sum := "1c093a1f937ca5cde64acd41aac3937d33f89d02dc375e5bfc20b82b21bcf691", func := "example.com/airquorum/airquorum/zzlaws_sim_b1.FnNumberReadsTheCanonicalLeadingNumeral", spec := "fnNumberReadsTheCanonicalLeadingNumeral", make := .lifted ["publicsums"], apart := false }
def FnNumberReadsTheCanonicalLeadingNumeralSaid : Prop := fnNumberReadsTheCanonicalLeadingNumeralRow.holds Trym.pinned (OpenSpec.ofChange fnNumberReadsTheCanonicalLeadingNumeralSpec)

/-- ITS FALSE NEIGHBOUR: 'it returns false'. Refute it at one input. -/
def fnNumberReadsTheCanonicalLeadingNumeralWrong : ChangeSpec := { name := "fnNumberReadsTheCanonicalLeadingNumeral", fn := fun _ => fun
  | [d] => { results := [.lit (.bool false)], args := [d] }
  | _ => none }
def FnNumberReadsTheCanonicalLeadingNumeralWrongFalsely : Prop := fnNumberReadsTheCanonicalLeadingNumeralRow.holds Trym.pinned (OpenSpec.ofChange fnNumberReadsTheCanonicalLeadingNumeralWrong)

/-- 'zzlaws_sim_b1.FnNumberReadsADecimalUpToTheFirstNonDigit': WHATEVER THE INPUT: true; the input reads as it did. -/
def fnNumberReadsADecimalUpToTheFirstNonDigitSpec : ChangeSpec := { name := "fnNumberReadsADecimalUpToTheFirstNonDigit", fn := fun _ => fun
  | [d1, d2, d3] => { results := [.lit (.bool true)], args := [d1, d2, d3] }
  | _ => none }
def fnNumberReadsADecimalUpToTheFirstNonDigitRow : OpenClaim := { program := "qxb6619122amods", sum := "1c093a1f937ca5cde64acd41aac3937d33f89d02dc375e5bfc20b82b21bcf691", func := "example.com/airquorum/airquorum/zzlaws_sim_b1.FnNumberReadsADecimalUpToTheFirstNonDigit", spec := "fnNumberReadsADecimalUpToTheFirstNonDigit", make := .lifted ["publicsums"], apart := false }
def FnNumberReadsADecimalUpToTheFirstNonDigitSaid : Prop := fnNumberReadsADecimalUpToTheFirstNonDigitRow.holds Trym.pinned (OpenSpec.ofChange fnNumberReadsADecimalUpToTheFirstNonDigitSpec)

/-- ITS FALSE NEIGHBOUR: 'it returns false'. Refute it at one input. -/
def fnNumberReadsADecimalUpToTheFirstNonDigitWrong : ChangeSpec := { name := "fnNumberReadsADecimalUpToTheFirstNonDigit", fn := fun _ => fun
  | [d1, d2, d3] => { results := [.lit (.bool false)], args := [d1, d2, d3] }
  | _ => none }
def FnNumberReadsADecimalUpToTheFirstNonDigitWrongFalsely : Prop := fnNumberReadsADecimalUpToTheFirstNonDigitRow.holds Trym.pinned (OpenSpec.ofChange fnNumberReadsADecimalUpToTheFirstNonDigitWrong)

end Rows
end Go.Proofs.Qxb6619122aMods
