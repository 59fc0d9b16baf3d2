/-
  No cell of these rows narrows 'for every input' (looked for: loops, veiled, ifaces, maps, wideKeys, modest, calm, conditions, laid).
  DERIVED. THE GIVEN ROWS OF THIS SEAT. 2 by the template 'for every input the law returns true; each argument reads behind the call as it read before'; 0 by the template 'total and deterministic' (their statements: Qxb6627587aTotals.lean).
  GIVEN WITH THE SEED: the statements are not yours to turn. If you find one false, say at which input.
  Laid BY PROGRAM, IN A SANDBOX (cutbox-rows.mjs): the forced cells as the released guide's own fill.sh prints them over the translation 647e9e861ac3c6e8… (all of the seat's roots in one cut). By AI agents, Wed Nov 11 2026. No macro, syntax, notation, axiom, sorry.
-/
import Derived.Test.Qxb6627587aChecked
import GoSem.Claim
import GoSem.ClaimJoined
import GoSem.ClaimMapViews
import Derived.JoinedTies
import Derived.KernelRfl
namespace Go.Proofs.Qxb6627587a
/- THE CELL 'sum', in the pinned program and in every row, IS THE sha256 OF THE DUMP (.gsa) THAT Qxb6627587aProg.lean LOADS. Nothing in Lean hashes anything: it is a label: what it is worth is what the hold of that sum in a sandbox is worth. -/
noncomputable def Try.pinned : Pinned := { name := "qxb6627587a", sum := "647e9e861ac3c6e8ed3b44c335cb8f06a5ca424c31ee59cc0a2061a2670d4c02", checked := Try.checked }
namespace Rows
def none {H : Type} : Left H := { results := [], args := [] }

/-- 'zzlaws_internal_sketch_b1.FnAddBuildsInvertedIndex': WHATEVER THE INPUT: true; the input reads as it did. -/
def fnAddBuildsInvertedIndexSpec : ChangeSpec := { name := "fnAddBuildsInvertedIndex", fn := fun _ => fun
  | [d] => { results := [.lit (.bool true)], args := [d] }
  | _ => none }
def fnAddBuildsInvertedIndexRow : OpenClaim := { program := "qxb6627587a", sum := "647e9e861ac3c6e8ed3b44c335cb8f06a5ca424c31ee59cc0a2061a2670d4c02", func := "example.com/driftsync/driftsync/zzlaws_internal_sketch_b1.FnAddBuildsInvertedIndex", spec := "fnAddBuildsInvertedIndex", apart := false }
def FnAddBuildsInvertedIndexSaid : Prop := fnAddBuildsInvertedIndexRow.holds Try.pinned (OpenSpec.ofChange fnAddBuildsInvertedIndexSpec)

/-- ITS FALSE NEIGHBOUR: 'it returns false'. Refute it at one input. -/
def fnAddBuildsInvertedIndexWrong : ChangeSpec := { name := "fnAddBuildsInvertedIndex", fn := fun _ => fun
  | [d] => { results := [.lit (.bool false)], args := [d] }
  | _ => none }
def FnAddBuildsInvertedIndexWrongFalsely : Prop := fnAddBuildsInvertedIndexRow.holds Try.pinned (OpenSpec.ofChange fnAddBuildsInvertedIndexWrong)

/-- 'zzlaws_internal_sketch_b1.FnAddSplitAtAnyCut': WHATEVER THE INPUT: true; the input reads as it did. -/
def fnAddSplitAtAnyCutSpec : ChangeSpec := { name := "fnAddSplitAtAnyCut", fn := fun _ => fun
  | [d1, d2] => { results := [.lit (.bool true)], args := [d1, d2] }
  | _ => none }
def fnAddSplitAtAnyCutRow : OpenClaim := { program := "qxb6627587a", sum := "647e9e861ac3c6e8ed3b44c335cb8f06a5ca424c31ee59cc0a2061a2670d4c02", func := "example.com/driftsync/driftsync/zzlaws_internal_sketch_b1.FnAddSplitAtAnyCut", spec := "fnAddSplitAtAnyCut", apart := false }
def FnAddSplitAtAnyCutSaid : Prop := fnAddSplitAtAnyCutRow.holds Try.pinned (OpenSpec.ofChange fnAddSplitAtAnyCutSpec)

/-- ITS FALSE NEIGHBOUR: 'it returns false'. Refute it at one input. -/
def fnAddSplitAtAnyCutWrong : ChangeSpec := { name := "fnAddSplitAtAnyCut", fn := fun _ => fun
  | [d1, d2] => { results := [.lit (.bool false)], args := [d1, d2] }
  | _ => none }
def FnAddSplitAtAnyCutWrongFalsely : Prop := fnAddSplitAtAnyCutRow.holds Try.pinned (OpenSpec.ofChange fnAddSplitAtAnyCutWrong)

end Rows
end Go.Proofs.Qxb6627587a
