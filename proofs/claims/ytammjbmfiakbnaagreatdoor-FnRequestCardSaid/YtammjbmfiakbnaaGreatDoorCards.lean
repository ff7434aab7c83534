/-
  DERIVED. GIVEN WITH THE SEED: THE CARDS: each row of YtammjbmfiakbnaaGreatDoorRows.lean that lists a variable, with what it lists TIED to the program's text (the seventh form; the later family's looks); each row that meets fmt, with fmt's text TOLD by the authors' own Lean function (tested against real Go, not proved from fmt's source: count such statements apart). THE CARD IS WHAT COUNTS. Prove the row's statement (the work); the ties are given (YtammjbmfiakbnaaGreatDoorTie.lean); close each card by the builder's one call (the guide's Derived/Test/ToyasCard.lean, 'card_holds'). Laid BY PROGRAM, IN A SANDBOX (cutbox-door.mjs). By AI agents, Wed Nov 11 2026. No macro, syntax, notation, axiom, sorry.
-/
import Derived.Test.YtammjbmfiakbnaaGreatDoorRows
import GoSem.ClaimSeven
namespace Go.Proofs.YtammjbmfiakbnaaGreatDoor
namespace Rows

/-- THE TIED CARD OF 'laws.FnRequest'. -/
def fnRequestCard : Claim7 := { stood := { row := fnRequestRow, standIns := [], harness := (true, "451a7eb41b5ea705f33c0aa3affce0b6d483923fd02af6249349f37373148e2f"), looks := true }, kinds := [], alts := [], laidByText := true, laidKinds := [.data, .data, .data, .data, .sentinel, .sentinel, .sentinel, .mapped, .sentinel, .sentinel, .sentinel, .sentinel, .sentinel], laidTests := true, laidLooks := .later }
def FnRequestCardSaid : Prop := Claim7.holds Tryz.pinned (.plain (OpenSpec.ofChange fnRequestSpec)) fnRequestCard

/-- THE SECOND FORM's CARD OF 'laws.FnRequest'. -/
def fnRequestUptoCard : Claim7 := { stood := { row := fnRequestUptoRow, standIns := [], harness := (true, "451a7eb41b5ea705f33c0aa3affce0b6d483923fd02af6249349f37373148e2f"), looks := true }, kinds := [], alts := [], laidByText := true, laidKinds := [.data, .data, .data, .data, .sentinel, .sentinel, .sentinel, .mapped, .sentinel, .sentinel, .sentinel, .sentinel, .sentinel], laidTests := true, laidLooks := .later }
def FnRequestUptoCardSaid : Prop := Claim7.holds Tryz.pinned (.plain (OpenSpec.upto fnRequestSpec)) fnRequestUptoCard
end Rows
end Go.Proofs.YtammjbmfiakbnaaGreatDoor
