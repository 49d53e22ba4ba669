/-
  No cell of these rows narrows 'for every input' (looked for: loops, veiled, ifaces, maps, wideKeys, modest, calm, conditions, laid).
  DERIVED. THE GIVEN ROWS OF THIS SEAT. 4 by the template 'for every input the law returns true; each argument reads behind the call as it read before'; 0 by the template 'total and deterministic' (their statements: Qxb6601384aTotals.lean).
  GIVEN WITH THE SEED: the statements are not yours to turn. If you find one false, say at which input.
  Laid BY PROGRAM, IN A SANDBOX (cutbox-rows.mjs): the forced cells as the released guide's own fill.sh prints them over the translation a150ebd79f4cf92d… (all of the seat's roots in one cut). By AI agents, Wed Nov 11 2026. No macro, syntax, notation, axiom, sorry.
-/
import Derived.Test.Qxb6601384aChecked
import GoSem.Claim
import GoSem.ClaimJoined
import GoSem.ClaimMapViews
import Derived.JoinedTies
import Derived.KernelRfl
namespace Go.Proofs.Qxb6601384a
/- THE CELL 'sum', in the pinned program and in every row, IS THE sha256 OF THE DUMP (.gsa) THAT Qxb6601384aProg.lean LOADS. Nothing in Lean hashes anything: it is a label: what it is worth is what the hold of that sum in a sandbox is worth. -/
noncomputable def Try.pinned : Pinned := { name := "qxb6601384a", sum := "a150ebd79f4cf92d860d8c859356d8700ed4ff678d297463f47c2aa3fe8a4a08", checked := Try.checked }
namespace Rows
def none {H : Type} : Left H := { results := [], args := [] }

/-- 'zzlaws_internal_datetime_b1.FnPaddingMatchesModel': WHATEVER THE INPUT: true; the input reads as it did. -/
def fnPaddingMatchesModelSpec : ChangeSpec := { name := "fnPaddingMatchesModel", fn := fun _ => fun
  | [d1, d2, d3, d4, d5, d6] => { results := [.lit (.bool true)], args := [d1, d2, d3, d4, d5, d6] }
  | _ => none }
def fnPaddingMatchesModelRow : OpenClaim := { program := "qxb6601384a", sum := "a150ebd79f4cf92d860d8c859356d8700ed4ff678d297463f47c2aa3fe8a4a08", func := "example.com/placeholder/placeholder/zzlaws_internal_datetime_b1.FnPaddingMatchesModel", spec := "fnPaddingMatchesModel", apart := false }
def FnPaddingMatchesModelSaid : Prop := fnPaddingMatchesModelRow.holds Try.pinned (OpenSpec.ofChange fnPaddingMatchesModelSpec)

/-- ITS FALSE NEIGHBOUR: 'it returns false'. Refute it at one input. -/
def fnPaddingMatchesModelWrong : ChangeSpec := { name := "fnPaddingMatchesModel", fn := fun _ => fun
  | [d1, d2, d3, d4, d5, d6] => { results := [.lit (.bool false)], args := [d1, d2, d3, d4, d5, d6] }
  | _ => none }
def FnPaddingMatchesModelWrongFalsely : Prop := fnPaddingMatchesModelRow.holds Try.pinned (OpenSpec.ofChange fnPaddingMatchesModelWrong)

/-- 'zzlaws_internal_datetime_b1.FnPaddingIdempotent': WHATEVER THE INPUT: true; the input reads as it did. -/
def fnPaddingIdempotentSpec : ChangeSpec := { name := "fnPaddingIdempotent", fn := fun _ => fun
  | [d1, d2, d3, d4, d5, d6] => { results := [.lit (.bool true)], args := [d1, d2, d3, d4, d5, d6] }
  | _ => none }
def fnPaddingIdempotentRow : OpenClaim := { program := "qxb6601384a", sum := "a150ebd79f4cf92d860d8c859356d8700ed4ff678d297463f47c2aa3fe8a4a08", func := "example.com/placeholder/placeholder/zzlaws_internal_datetime_b1.FnPaddingIdempotent", spec := "fnPaddingIdempotent", apart := false }
def FnPaddingIdempotentSaid : Prop := fnPaddingIdempotentRow.holds Try.pinned (OpenSpec.ofChange fnPaddingIdempotentSpec)

/-- ITS FALSE NEIGHBOUR: 'it returns false'. Refute it at one input. -/
def fnPaddingIdempotentWrong : ChangeSpec := { name := "fnPaddingIdempotent", fn := fun _ => fun
  | [d1, d2, d3, d4, d5, d6] => { results := [.lit (.bool false)], args := [d1, d2, d3, d4, d5, d6] }
  | _ => none }
def FnPaddingIdempotentWrongFalsely : Prop := fnPaddingIdempotentRow.holds Try.pinned (OpenSpec.ofChange fnPaddingIdempotentWrong)

/-- 'zzlaws_internal_datetime_b1.FnShapeOfMatchesModel': WHATEVER THE INPUT: true; the input reads as it did. -/
def fnShapeOfMatchesModelSpec : ChangeSpec := { name := "fnShapeOfMatchesModel", fn := fun _ => fun
  | [d1, d2] => { results := [.lit (.bool true)], args := [d1, d2] }
  | _ => none }
def fnShapeOfMatchesModelRow : OpenClaim := { program := "qxb6601384a", sum := "a150ebd79f4cf92d860d8c859356d8700ed4ff678d297463f47c2aa3fe8a4a08", func := "example.com/placeholder/placeholder/zzlaws_internal_datetime_b1.FnShapeOfMatchesModel", spec := "fnShapeOfMatchesModel", apart := false }
def FnShapeOfMatchesModelSaid : Prop := fnShapeOfMatchesModelRow.holds Try.pinned (OpenSpec.ofChange fnShapeOfMatchesModelSpec)

/-- ITS FALSE NEIGHBOUR: 'it returns false'. Refute it at one input. -/
def fnShapeOfMatchesModelWrong : ChangeSpec := { name := "fnShapeOfMatchesModel", fn := fun _ => fun
  | [d1, d2] => { results := [.lit (.bool false)], args := [d1, d2] }
  | _ => none }
def FnShapeOfMatchesModelWrongFalsely : Prop := fnShapeOfMatchesModelRow.holds Try.pinned (OpenSpec.ofChange fnShapeOfMatchesModelWrong)

/-- 'zzlaws_internal_datetime_b1.FnShapeOfSplitsAtRunBoundary': WHATEVER THE INPUT: true; the input reads as it did. -/
def fnShapeOfSplitsAtRunBoundarySpec : ChangeSpec := { name := "fnShapeOfSplitsAtRunBoundary", fn := fun _ => fun
  | [d1, d2] => { results := [.lit (.bool true)], args := [d1, d2] }
  | _ => none }
def fnShapeOfSplitsAtRunBoundaryRow : OpenClaim := { program := "qxb6601384a", sum := "a150ebd79f4cf92d860d8c859356d8700ed4ff678d297463f47c2aa3fe8a4a08", func := "example.com/placeholder/placeholder/zzlaws_internal_datetime_b1.FnShapeOfSplitsAtRunBoundary", spec := "fnShapeOfSplitsAtRunBoundary", apart := false }
def FnShapeOfSplitsAtRunBoundarySaid : Prop := fnShapeOfSplitsAtRunBoundaryRow.holds Try.pinned (OpenSpec.ofChange fnShapeOfSplitsAtRunBoundarySpec)

/-- ITS FALSE NEIGHBOUR: 'it returns false'. Refute it at one input. -/
def fnShapeOfSplitsAtRunBoundaryWrong : ChangeSpec := { name := "fnShapeOfSplitsAtRunBoundary", fn := fun _ => fun
  | [d1, d2] => { results := [.lit (.bool false)], args := [d1, d2] }
  | _ => none }
def FnShapeOfSplitsAtRunBoundaryWrongFalsely : Prop := fnShapeOfSplitsAtRunBoundaryRow.holds Try.pinned (OpenSpec.ofChange fnShapeOfSplitsAtRunBoundaryWrong)

end Rows
end Go.Proofs.Qxb6601384a
