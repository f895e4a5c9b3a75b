/-
  DERIVED. GIVEN WITH THE SEED: THE CARDS: each row of YtndhiemagankeaaGreatDoorRows.lean that lists a variable, with what it lists TIED to the program's text (the seventh form; the later family's looks); each row that meets fmt, with fmt's text TOLD by the authors' own Lean function (tested against real Go, not proved from fmt's source: count such statements apart). THE CARD IS WHAT COUNTS. Prove the row's statement (the work); the ties are given (YtndhiemagankeaaGreatDoorTie.lean); close each card by the builder's one call (the guide's Derived/Test/ToyasCard.lean, 'card_holds'). Laid BY PROGRAM, IN A SANDBOX (cutbox-door.mjs). By AI agents, Wed Nov 11 2026. No macro, syntax, notation, axiom, sorry.
-/
import Derived.Test.YtndhiemagankeaaGreatDoorRows
import GoSem.ClaimSeven
namespace Go.Proofs.YtndhiemagankeaaGreatDoor
namespace Rows

/-- THE TIED CARD OF 'laws.FnLayout'. -/
def fnLayoutCard : Claim7 := { stood := { row := fnLayoutRow, standIns := [], harness := (true, "c38b82cba86413f87e392a121733ad0027f9712952734bb8af0de5ad5ec69895"), looks := false }, kinds := [], alts := [], laidByText := true, laidKinds := [.data, .sentinel, .sentinel, .sentinel], laidTests := true, laidLooks := .later }
def FnLayoutCardSaid : Prop := Claim7.holds Tryz.pinned (.plain (OpenSpec.ofChange fnLayoutSpec)) fnLayoutCard

/-- THE SECOND FORM's CARD OF 'laws.FnLayout'. -/
def fnLayoutUptoCard : Claim7 := { stood := { row := fnLayoutUptoRow, standIns := [], harness := (true, "c38b82cba86413f87e392a121733ad0027f9712952734bb8af0de5ad5ec69895"), looks := false }, kinds := [], alts := [], laidByText := true, laidKinds := [.data, .sentinel, .sentinel, .sentinel], laidTests := true, laidLooks := .later }
def FnLayoutUptoCardSaid : Prop := Claim7.holds Tryz.pinned (.plain (OpenSpec.upto fnLayoutSpec)) fnLayoutUptoCard
end Rows
end Go.Proofs.YtndhiemagankeaaGreatDoor
