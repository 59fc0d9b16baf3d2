/-
  DERIVED. GIVEN WITH THE SEED: THE CARDS: each row of Qxb6627455aDoorRows.lean that lists a variable, with what it lists TIED to the program's text (the seventh form; the later family's looks); each row that meets fmt, with fmt's text TOLD by the authors' own Lean function (tested against real Go, not proved from fmt's source: count such statements apart). THE CARD IS WHAT COUNTS. Prove the row's statement (the work); the ties are given (Qxb6627455aDoorTie.lean); close each card by the builder's one call (the guide's Derived/Test/ToyasCard.lean, 'card_holds'). Laid BY PROGRAM, IN A SANDBOX (cutbox-door.mjs). By AI agents, Wed Nov 11 2026. No macro, syntax, notation, axiom, sorry.
-/
import Derived.Test.Qxb6627455aDoorRows
import GoSem.ClaimSeven
namespace Go.Proofs.Qxb6627455aDoor
namespace Rows

/-- THE TIED CARD OF 'zzlaws_tree_b1.FnKindStringNamesOrNumbers'. -/
def fnKindStringNamesOrNumbersCard : Claim7 := { stood := { row := fnKindStringNamesOrNumbersRow, standIns := [], harness := (true, "6a2c45ae7b283fd020b49ef95b3b871f8e398bf65fc08ce5f156a00e54757255"), looks := false }, kinds := [], alts := [], laidByText := true, laidKinds := [.data, .data, .data], laidTests := true, laidLooks := .later }
def FnKindStringNamesOrNumbersCardSaid : Prop := Claim7.holds Tryd.pinned (.plain (OpenSpec.ofChange fnKindStringNamesOrNumbersSpec)) fnKindStringNamesOrNumbersCard

/-- THE TIED CARD OF 'zzlaws_tree_b1.FnKindStringInjective'. -/
def fnKindStringInjectiveCard : Claim7 := { stood := { row := fnKindStringInjectiveRow, standIns := [], harness := (true, "6a2c45ae7b283fd020b49ef95b3b871f8e398bf65fc08ce5f156a00e54757255"), looks := false }, kinds := [], alts := [], laidByText := true, laidKinds := [.data, .data, .data], laidTests := true, laidLooks := .later }
def FnKindStringInjectiveCardSaid : Prop := Claim7.holds Tryd.pinned (.plain (OpenSpec.ofChange fnKindStringInjectiveSpec)) fnKindStringInjectiveCard
end Rows
end Go.Proofs.Qxb6627455aDoor
