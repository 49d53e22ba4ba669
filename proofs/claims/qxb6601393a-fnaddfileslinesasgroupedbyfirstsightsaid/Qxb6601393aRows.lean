/-
  No cell of these rows narrows 'for every input' (looked for: loops, veiled, ifaces, maps, wideKeys, modest, calm, conditions, laid).
  DERIVED. THE GIVEN ROWS OF THIS SEAT. 2 by the template 'for every input the law returns true; each argument reads behind the call as it read before'; 0 by the template 'total and deterministic' (their statements: Qxb6601393aTotals.lean).
  GIVEN WITH THE SEED: the statements are not yours to turn. If you find one false, say at which input.
  Laid BY PROGRAM, IN A SANDBOX (cutbox-rows.mjs): the forced cells as the released guide's own fill.sh prints them over the translation e6f974c5629717a1… (all of the seat's roots in one cut). By AI agents, Wed Nov 11 2026. No macro, syntax, notation, axiom, sorry.
-/
import Derived.Test.Qxb6601393aChecked
import GoSem.Claim
import GoSem.ClaimJoined
import GoSem.ClaimMapViews
import Derived.JoinedTies
import Derived.KernelRfl
namespace Go.Proofs.Qxb6601393a
/- THE CELL 'sum', in the pinned program and in every row, IS THE sha256 OF THE DUMP (.gsa) THAT Qxb6601393aProg.lean LOADS. Nothing in Lean hashes anything: it is a label: what it is worth is what the hold of that sum in a sandbox is worth. -/
noncomputable def Try.pinned : Pinned := { name := "qxb6601393a", sum := "e6f974c5629717a1be96a171aa9d0bdbc88e9404c470bb8f19f6677dbdd35046", checked := Try.checked }
namespace Rows
def none {H : Type} : Left H := { results := [], args := [] }

/-- 'zzlaws_pkg_standin_b1.FnAddFilesLinesAsGroupedByFirstSight': WHATEVER THE INPUT: true; the input reads as it did. -/
def fnAddFilesLinesAsGroupedByFirstSightSpec : ChangeSpec := { name := "fnAddFilesLinesAsGroupedByFirstSight", fn := fun _ => fun
  | [d] => { results := [.lit (.bool true)], args := [d] }
  | _ => none }
def fnAddFilesLinesAsGroupedByFirstSightRow : OpenClaim := { program := "qxb6601393a", sum := "e6f974c5629717a1be96a171aa9d0bdbc88e9404c470bb8f19f6677dbdd35046", func := "example.com/velvet-rope/velvet-rope/zzlaws_pkg_standin_b1.FnAddFilesLinesAsGroupedByFirstSight", spec := "fnAddFilesLinesAsGroupedByFirstSight", apart := false }
def FnAddFilesLinesAsGroupedByFirstSightSaid : Prop := fnAddFilesLinesAsGroupedByFirstSightRow.holds Try.pinned (OpenSpec.ofChange fnAddFilesLinesAsGroupedByFirstSightSpec)

/-- ITS FALSE NEIGHBOUR: 'it returns false'. Refute it at one input. -/
def fnAddFilesLinesAsGroupedByFirstSightWrong : ChangeSpec := { name := "fnAddFilesLinesAsGroupedByFirstSight", fn := fun _ => fun
  | [d] => { results := [.lit (.bool false)], args := [d] }
  | _ => none }
def FnAddFilesLinesAsGroupedByFirstSightWrongFalsely : Prop := fnAddFilesLinesAsGroupedByFirstSightRow.holds Try.pinned (OpenSpec.ofChange fnAddFilesLinesAsGroupedByFirstSightWrong)

/-- 'zzlaws_pkg_standin_b1.FnAddLaterLinesKeepEarlierResources': WHATEVER THE INPUT: true; the input reads as it did. -/
def fnAddLaterLinesKeepEarlierResourcesSpec : ChangeSpec := { name := "fnAddLaterLinesKeepEarlierResources", fn := fun _ => fun
  | [d1, d2] => { results := [.lit (.bool true)], args := [d1, d2] }
  | _ => none }
def fnAddLaterLinesKeepEarlierResourcesRow : OpenClaim := { program := "qxb6601393a", sum := "e6f974c5629717a1be96a171aa9d0bdbc88e9404c470bb8f19f6677dbdd35046", func := "example.com/velvet-rope/velvet-rope/zzlaws_pkg_standin_b1.FnAddLaterLinesKeepEarlierResources", spec := "fnAddLaterLinesKeepEarlierResources", apart := false }
def FnAddLaterLinesKeepEarlierResourcesSaid : Prop := fnAddLaterLinesKeepEarlierResourcesRow.holds Try.pinned (OpenSpec.ofChange fnAddLaterLinesKeepEarlierResourcesSpec)

/-- ITS FALSE NEIGHBOUR: 'it returns false'. Refute it at one input. -/
def fnAddLaterLinesKeepEarlierResourcesWrong : ChangeSpec := { name := "fnAddLaterLinesKeepEarlierResources", fn := fun _ => fun
  | [d1, d2] => { results := [.lit (.bool false)], args := [d1, d2] }
  | _ => none }
def FnAddLaterLinesKeepEarlierResourcesWrongFalsely : Prop := fnAddLaterLinesKeepEarlierResourcesRow.holds Try.pinned (OpenSpec.ofChange fnAddLaterLinesKeepEarlierResourcesWrong)

end Rows
end Go.Proofs.Qxb6601393a
