/-
  No cell of these rows narrows 'for every input' (looked for: loops, veiled, ifaces, maps, wideKeys, modest, calm, conditions, laid).
  DERIVED. THE GIVEN ROWS OF THIS SEAT. 2 by the template 'for every input the law returns true; each argument reads behind the call as it read before'; 0 by the template 'total and deterministic' (their statements: Qxb6627542aTotals.lean).
  GIVEN WITH THE SEED: the statements are not yours to turn. If you find one false, say at which input.
  Laid BY PROGRAM, IN A SANDBOX (cutbox-rows.mjs): the forced cells as the released guide's own fill.sh prints them over the translation 36a78455e75f494d… (all of the seat's roots in one cut). By AI agents, Wed Nov 11 2026. No macro, syntax, notation, axiom, sorry.
-/
import Derived.Test.Qxb6627542aChecked
import GoSem.Claim
import GoSem.ClaimJoined
import GoSem.ClaimMapViews
import Derived.JoinedTies
import Derived.KernelRfl
namespace Go.Proofs.Qxb6627542a
/- THE CELL 'sum', in the pinned program and in every row, IS THE sha256 OF THE DUMP (.gsa) THAT Qxb6627542aProg.lean LOADS. Nothing in Lean hashes anything: it is a label: what it is worth is what the hold of that sum in a sandbox is worth. -/
noncomputable def Try.pinned : Pinned := { name := "qxb6627542a", sum := "36a78455e75f494d3a1b9b64be47336b23a84254cc57e3a14c454a5cacbe3154", checked := Try.checked }
namespace Rows
def none {H : Type} : Left H := { results := [], args := [] }

/-- 'zzlaws_internal_subset_b1.FnChooseIsTopKByRank': WHATEVER THE INPUT: true; the input reads as it did. -/
def fnChooseIsTopKByRankSpec : ChangeSpec := { name := "fnChooseIsTopKByRank", fn := fun _ => fun
  | [d1, d2, d3] => { results := [.lit (.bool true)], args := [d1, d2, d3] }
  | _ => none }
def fnChooseIsTopKByRankRow : OpenClaim := { program := "qxb6627542a", sum := "36a78455e75f494d3a1b9b64be47336b23a84254cc57e3a14c454a5cacbe3154", func := "example.com/pickwright/pickwright/zzlaws_internal_subset_b1.FnChooseIsTopKByRank", spec := "fnChooseIsTopKByRank", unfollowed := true, recurses := true, apart := false }
def FnChooseIsTopKByRankSaid : Prop := fnChooseIsTopKByRankRow.holds Try.pinned (OpenSpec.ofChange fnChooseIsTopKByRankSpec)

/-- ITS FALSE NEIGHBOUR: 'it returns false'. Refute it at one input. -/
def fnChooseIsTopKByRankWrong : ChangeSpec := { name := "fnChooseIsTopKByRank", fn := fun _ => fun
  | [d1, d2, d3] => { results := [.lit (.bool false)], args := [d1, d2, d3] }
  | _ => none }
def FnChooseIsTopKByRankWrongFalsely : Prop := fnChooseIsTopKByRankRow.holds Try.pinned (OpenSpec.ofChange fnChooseIsTopKByRankWrong)

/-- 'zzlaws_internal_subset_b1.FnChooseMergesOverAnyCut': WHATEVER THE INPUT: true; the input reads as it did. -/
def fnChooseMergesOverAnyCutSpec : ChangeSpec := { name := "fnChooseMergesOverAnyCut", fn := fun _ => fun
  | [d1, d2, d3, d4] => { results := [.lit (.bool true)], args := [d1, d2, d3, d4] }
  | _ => none }
def fnChooseMergesOverAnyCutRow : OpenClaim := { program := "qxb6627542a", sum := "36a78455e75f494d3a1b9b64be47336b23a84254cc57e3a14c454a5cacbe3154", func := "example.com/pickwright/pickwright/zzlaws_internal_subset_b1.FnChooseMergesOverAnyCut", spec := "fnChooseMergesOverAnyCut", unfollowed := true, recurses := true, apart := false }
def FnChooseMergesOverAnyCutSaid : Prop := fnChooseMergesOverAnyCutRow.holds Try.pinned (OpenSpec.ofChange fnChooseMergesOverAnyCutSpec)

/-- ITS FALSE NEIGHBOUR: 'it returns false'. Refute it at one input. -/
def fnChooseMergesOverAnyCutWrong : ChangeSpec := { name := "fnChooseMergesOverAnyCut", fn := fun _ => fun
  | [d1, d2, d3, d4] => { results := [.lit (.bool false)], args := [d1, d2, d3, d4] }
  | _ => none }
def FnChooseMergesOverAnyCutWrongFalsely : Prop := fnChooseMergesOverAnyCutRow.holds Try.pinned (OpenSpec.ofChange fnChooseMergesOverAnyCutWrong)

end Rows
end Go.Proofs.Qxb6627542a
