/-
  No cell of these rows narrows 'for every input' (looked for: loops, veiled, ifaces, maps, wideKeys, modest, calm, conditions, laid).
  DERIVED. THE GIVEN ROWS OF THIS SEAT. 2 by the template 'for every input the law returns true; each argument reads behind the call as it read before'; 0 by the template 'total and deterministic' (their statements: Qxb6627500aTotals.lean).
  GIVEN WITH THE SEED: the statements are not yours to turn. If you find one false, say at which input.
  Laid BY PROGRAM, IN A SANDBOX (cutbox-rows.mjs): the forced cells as the released guide's own fill.sh prints them over the translation b33644cda067066c… (all of the seat's roots in one cut). By AI agents, Wed Nov 11 2026. No macro, syntax, notation, axiom, sorry.
-/
import Derived.Test.Qxb6627500aChecked
import GoSem.Claim
import GoSem.ClaimJoined
import GoSem.ClaimMapViews
import Derived.JoinedTies
import Derived.KernelRfl
namespace Go.Proofs.Qxb6627500a
/- THE CELL 'sum', in the pinned program and in every row, IS THE sha256 OF THE DUMP (.gsa) THAT Qxb6627500aProg.lean LOADS. Nothing in Lean hashes anything: it is a label: what it is worth is what the hold of that sum in a sandbox is worth. -/
noncomputable def Try.pinned : Pinned := { name := "qxb6627500a", sum := "b33644cda067066c79ed8a59a2e3861a6ce336b4827a0ae06a8bd5ec9f724901", checked := Try.checked }
namespace Rows
def none {H : Type} : Left H := { results := [], args := [] }

/-- 'zzlaws_pkg_detector_b1.FnHolderSitesCutJoinsAndOtherWaitersIgnored': WHATEVER THE INPUT: true; the input reads as it did. -/
def fnHolderSitesCutJoinsAndOtherWaitersIgnoredSpec : ChangeSpec := { name := "fnHolderSitesCutJoinsAndOtherWaitersIgnored", fn := fun _ => fun
  | [d1, d2, d3, d4, d5, d6] => { results := [.lit (.bool true)], args := [d1, d2, d3, d4, d5, d6] }
  | _ => none }
def fnHolderSitesCutJoinsAndOtherWaitersIgnoredRow : OpenClaim := { program := "qxb6627500a", sum := "b33644cda067066c79ed8a59a2e3861a6ce336b4827a0ae06a8bd5ec9f724901", func := "example.com/edgechase/edgechase/zzlaws_pkg_detector_b1.FnHolderSitesCutJoinsAndOtherWaitersIgnored", spec := "fnHolderSitesCutJoinsAndOtherWaitersIgnored", plainKeys := false, apart := false }
def FnHolderSitesCutJoinsAndOtherWaitersIgnoredSaid : Prop := fnHolderSitesCutJoinsAndOtherWaitersIgnoredRow.holds Try.pinned (OpenSpec.ofChange fnHolderSitesCutJoinsAndOtherWaitersIgnoredSpec)

/-- ITS FALSE NEIGHBOUR: 'it returns false'. Refute it at one input. -/
def fnHolderSitesCutJoinsAndOtherWaitersIgnoredWrong : ChangeSpec := { name := "fnHolderSitesCutJoinsAndOtherWaitersIgnored", fn := fun _ => fun
  | [d1, d2, d3, d4, d5, d6] => { results := [.lit (.bool false)], args := [d1, d2, d3, d4, d5, d6] }
  | _ => none }
def FnHolderSitesCutJoinsAndOtherWaitersIgnoredWrongFalsely : Prop := fnHolderSitesCutJoinsAndOtherWaitersIgnoredRow.holds Try.pinned (OpenSpec.ofChange fnHolderSitesCutJoinsAndOtherWaitersIgnoredWrong)

/-- 'zzlaws_pkg_detector_b1.FnHolderSitesInsertOneAtAnyPlace': WHATEVER THE INPUT: true; the input reads as it did. -/
def fnHolderSitesInsertOneAtAnyPlaceSpec : ChangeSpec := { name := "fnHolderSitesInsertOneAtAnyPlace", fn := fun _ => fun
  | [d1, d2, d3, d4, d5] => { results := [.lit (.bool true)], args := [d1, d2, d3, d4, d5] }
  | _ => none }
def fnHolderSitesInsertOneAtAnyPlaceRow : OpenClaim := { program := "qxb6627500a", sum := "b33644cda067066c79ed8a59a2e3861a6ce336b4827a0ae06a8bd5ec9f724901", func := "example.com/edgechase/edgechase/zzlaws_pkg_detector_b1.FnHolderSitesInsertOneAtAnyPlace", spec := "fnHolderSitesInsertOneAtAnyPlace", plainKeys := false, apart := false }
def FnHolderSitesInsertOneAtAnyPlaceSaid : Prop := fnHolderSitesInsertOneAtAnyPlaceRow.holds Try.pinned (OpenSpec.ofChange fnHolderSitesInsertOneAtAnyPlaceSpec)

/-- ITS FALSE NEIGHBOUR: 'it returns false'. Refute it at one input. -/
def fnHolderSitesInsertOneAtAnyPlaceWrong : ChangeSpec := { name := "fnHolderSitesInsertOneAtAnyPlace", fn := fun _ => fun
  | [d1, d2, d3, d4, d5] => { results := [.lit (.bool false)], args := [d1, d2, d3, d4, d5] }
  | _ => none }
def FnHolderSitesInsertOneAtAnyPlaceWrongFalsely : Prop := fnHolderSitesInsertOneAtAnyPlaceRow.holds Try.pinned (OpenSpec.ofChange fnHolderSitesInsertOneAtAnyPlaceWrong)

end Rows
end Go.Proofs.Qxb6627500a
