/-
  DERIVED. GIVEN WITH THE SEED: THE CARDS: each row of YthbmfhkpkkgdnaaGreatDoorRows.lean that lists a variable, with what it lists TIED to the program's text (the seventh form; the later family's looks); each row that meets fmt, with fmt's text TOLD by the authors' own Lean function (tested against real Go, not proved from fmt's source: count such statements apart). THE CARD IS WHAT COUNTS. Prove the row's statement (the work); the ties are given (YthbmfhkpkkgdnaaGreatDoorTie.lean); close each card by the builder's one call (the guide's Derived/Test/ToyasCard.lean, 'card_holds'). Laid BY PROGRAM, IN A SANDBOX (cutbox-door.mjs). By AI agents, Wed Nov 11 2026. No macro, syntax, notation, axiom, sorry.
-/
import Derived.Test.YthbmfhkpkkgdnaaGreatDoorRows
import GoSem.ClaimSeven
namespace Go.Proofs.YthbmfhkpkkgdnaaGreatDoor
namespace Rows

/-- THE TIED CARD OF 'laws.FnFjBuildFloat'. -/
def fnFjBuildFloatCard : Claim7 := { stood := { row := fnFjBuildFloatRow, standIns := [], harness := (true, "84a86b3f5c4348dcf322e3c2e6f79e0267fb5184c7a19a800f5204bfae629bea"), looks := false }, kinds := [], alts := [], laidByText := true, laidKinds := [.data, .data, .data, .data, .data, .pinned, .pinned, .pinned, .pinned, .pinned, .pinned, .pinned, .pinned], laidTests := true, laidLooks := .later }
def FnFjBuildFloatCardSaid : Prop := Claim7.holds Tryz.pinned (.plain (OpenSpec.ofChange fnFjBuildFloatSpec)) fnFjBuildFloatCard

/-- THE SECOND FORM's CARD OF 'laws.FnFjBuildFloat'. -/
def fnFjBuildFloatUptoCard : Claim7 := { stood := { row := fnFjBuildFloatUptoRow, standIns := [], harness := (true, "84a86b3f5c4348dcf322e3c2e6f79e0267fb5184c7a19a800f5204bfae629bea"), looks := false }, kinds := [], alts := [], laidByText := true, laidKinds := [.data, .data, .data, .data, .data, .pinned, .pinned, .pinned, .pinned, .pinned, .pinned, .pinned, .pinned], laidTests := true, laidLooks := .later }
def FnFjBuildFloatUptoCardSaid : Prop := Claim7.holds Tryz.pinned (.plain (OpenSpec.upto fnFjBuildFloatSpec)) fnFjBuildFloatUptoCard
end Rows
end Go.Proofs.YthbmfhkpkkgdnaaGreatDoor
