/-
  No cell of these rows narrows 'for every input' (looked for: loops, veiled, ifaces, maps, wideKeys, modest, calm, conditions, laid).
  DERIVED. THE GIVEN ROWS OF THIS SEAT. 4 by the template 'for every input the law returns true; each argument reads behind the call as it read before'; 0 by the template 'total and deterministic' (their statements: Qxb6601452aTotals.lean).
  GIVEN WITH THE SEED: the statements are not yours to turn. If you find one false, say at which input.
  Laid BY PROGRAM, IN A SANDBOX (cutbox-rows.mjs): the forced cells as the released guide's own fill.sh prints them over the translation 679fca016eaf4352… (all of the seat's roots in one cut). By AI agents, Wed Nov 11 2026. No macro, syntax, notation, axiom, sorry.
-/
import Derived.Test.Qxb6601452aChecked
import GoSem.Claim
import GoSem.ClaimJoined
import GoSem.ClaimMapViews
import Derived.JoinedTies
import Derived.KernelRfl
namespace Go.Proofs.Qxb6601452a
/- THE CELL 'sum', in the pinned program and in every row, IS THE sha256 OF THE DUMP (.gsa) THAT Qxb6601452aProg.lean LOADS. Nothing in Lean hashes anything: it is a label: what it is worth is what the hold of that sum in a sandbox is worth. -/
noncomputable def Try.pinned : Pinned := { name := "qxb6601452a", sum := "679fca016eaf43523a6a969fb865491b386f55e4059060275c483d98b708a206", checked := Try.checked }
namespace Rows
def none {H : Type} : Left H := { results := [], args := [] }

/-- 'zzlaws_internal_jcs_b1.FnParserNextFirstNonSpace': WHATEVER THE INPUT: true; the input reads as it did. -/
def fnParserNextFirstNonSpaceSpec : ChangeSpec := { name := "fnParserNextFirstNonSpace", fn := fun _ => fun
  | [d1, d2, d3] => { results := [.lit (.bool true)], args := [d1, d2, d3] }
  | _ => none }
def fnParserNextFirstNonSpaceRow : OpenClaim := { program := "qxb6601452a", sum := "679fca016eaf43523a6a969fb865491b386f55e4059060275c483d98b708a206", func := "example.com/attest/attest/zzlaws_internal_jcs_b1.FnParserNextFirstNonSpace", spec := "fnParserNextFirstNonSpace", apart := false }
def FnParserNextFirstNonSpaceSaid : Prop := fnParserNextFirstNonSpaceRow.holds Try.pinned (OpenSpec.ofChange fnParserNextFirstNonSpaceSpec)

/-- ITS FALSE NEIGHBOUR: 'it returns false'. Refute it at one input. -/
def fnParserNextFirstNonSpaceWrong : ChangeSpec := { name := "fnParserNextFirstNonSpace", fn := fun _ => fun
  | [d1, d2, d3] => { results := [.lit (.bool false)], args := [d1, d2, d3] }
  | _ => none }
def FnParserNextFirstNonSpaceWrongFalsely : Prop := fnParserNextFirstNonSpaceRow.holds Try.pinned (OpenSpec.ofChange fnParserNextFirstNonSpaceWrong)

/-- 'zzlaws_internal_jcs_b1.FnParserNextIdempotent': WHATEVER THE INPUT: true; the input reads as it did. -/
def fnParserNextIdempotentSpec : ChangeSpec := { name := "fnParserNextIdempotent", fn := fun _ => fun
  | [d1, d2, d3] => { results := [.lit (.bool true)], args := [d1, d2, d3] }
  | _ => none }
def fnParserNextIdempotentRow : OpenClaim := { program := "qxb6601452a", sum := "679fca016eaf43523a6a969fb865491b386f55e4059060275c483d98b708a206", func := "example.com/attest/attest/zzlaws_internal_jcs_b1.FnParserNextIdempotent", spec := "fnParserNextIdempotent", apart := false }
def FnParserNextIdempotentSaid : Prop := fnParserNextIdempotentRow.holds Try.pinned (OpenSpec.ofChange fnParserNextIdempotentSpec)

/-- ITS FALSE NEIGHBOUR: 'it returns false'. Refute it at one input. -/
def fnParserNextIdempotentWrong : ChangeSpec := { name := "fnParserNextIdempotent", fn := fun _ => fun
  | [d1, d2, d3] => { results := [.lit (.bool false)], args := [d1, d2, d3] }
  | _ => none }
def FnParserNextIdempotentWrongFalsely : Prop := fnParserNextIdempotentRow.holds Try.pinned (OpenSpec.ofChange fnParserNextIdempotentWrong)

/-- 'zzlaws_internal_jcs_b1.FnParserDigitsMaximalRun': WHATEVER THE INPUT: true; the input reads as it did. -/
def fnParserDigitsMaximalRunSpec : ChangeSpec := { name := "fnParserDigitsMaximalRun", fn := fun _ => fun
  | [d1, d2, d3] => { results := [.lit (.bool true)], args := [d1, d2, d3] }
  | _ => none }
def fnParserDigitsMaximalRunRow : OpenClaim := { program := "qxb6601452a", sum := "679fca016eaf43523a6a969fb865491b386f55e4059060275c483d98b708a206", func := "example.com/attest/attest/zzlaws_internal_jcs_b1.FnParserDigitsMaximalRun", spec := "fnParserDigitsMaximalRun", apart := false }
def FnParserDigitsMaximalRunSaid : Prop := fnParserDigitsMaximalRunRow.holds Try.pinned (OpenSpec.ofChange fnParserDigitsMaximalRunSpec)

/-- ITS FALSE NEIGHBOUR: 'it returns false'. Refute it at one input. -/
def fnParserDigitsMaximalRunWrong : ChangeSpec := { name := "fnParserDigitsMaximalRun", fn := fun _ => fun
  | [d1, d2, d3] => { results := [.lit (.bool false)], args := [d1, d2, d3] }
  | _ => none }
def FnParserDigitsMaximalRunWrongFalsely : Prop := fnParserDigitsMaximalRunRow.holds Try.pinned (OpenSpec.ofChange fnParserDigitsMaximalRunWrong)

/-- 'zzlaws_internal_jcs_b1.FnParserDigitsIdempotent': WHATEVER THE INPUT: true; the input reads as it did. -/
def fnParserDigitsIdempotentSpec : ChangeSpec := { name := "fnParserDigitsIdempotent", fn := fun _ => fun
  | [d1, d2, d3] => { results := [.lit (.bool true)], args := [d1, d2, d3] }
  | _ => none }
def fnParserDigitsIdempotentRow : OpenClaim := { program := "qxb6601452a", sum := "679fca016eaf43523a6a969fb865491b386f55e4059060275c483d98b708a206", func := "example.com/attest/attest/zzlaws_internal_jcs_b1.FnParserDigitsIdempotent", spec := "fnParserDigitsIdempotent", apart := false }
def FnParserDigitsIdempotentSaid : Prop := fnParserDigitsIdempotentRow.holds Try.pinned (OpenSpec.ofChange fnParserDigitsIdempotentSpec)

/-- ITS FALSE NEIGHBOUR: 'it returns false'. Refute it at one input. -/
def fnParserDigitsIdempotentWrong : ChangeSpec := { name := "fnParserDigitsIdempotent", fn := fun _ => fun
  | [d1, d2, d3] => { results := [.lit (.bool false)], args := [d1, d2, d3] }
  | _ => none }
def FnParserDigitsIdempotentWrongFalsely : Prop := fnParserDigitsIdempotentRow.holds Try.pinned (OpenSpec.ofChange fnParserDigitsIdempotentWrong)

end Rows
end Go.Proofs.Qxb6601452a
