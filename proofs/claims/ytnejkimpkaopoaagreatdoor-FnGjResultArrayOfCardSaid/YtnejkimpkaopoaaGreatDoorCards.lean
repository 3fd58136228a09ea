/-
  DERIVED. GIVEN WITH THE SEED: THE CARDS: each row of YtnejkimpkaopoaaGreatDoorRows.lean that lists a variable, with what it lists TIED to the program's text (the seventh form; the later family's looks); each row that meets fmt, with fmt's text TOLD by the authors' own Lean function (tested against real Go, not proved from fmt's source: count such statements apart). THE CARD IS WHAT COUNTS. Prove the row's statement (the work); the ties are given (YtnejkimpkaopoaaGreatDoorTie.lean); close each card by the builder's one call (the guide's Derived/Test/ToyasCard.lean, 'card_holds'). Laid BY PROGRAM, IN A SANDBOX (cutbox-door.mjs). By AI agents, Wed Nov 11 2026. No macro, syntax, notation, axiom, sorry.
-/
import Derived.Test.YtnejkimpkaopoaaGreatDoorRows
import GoSem.ClaimSeven
namespace Go.Proofs.YtnejkimpkaopoaaGreatDoor
namespace Rows

/-- THE TIED CARD OF 'laws.FnGjResultArrayOf'. -/
def fnGjResultArrayOfCard : Claim7 := { stood := { row := fnGjResultArrayOfRow, standIns := [], harness := (true, "c87cbb5bc907ebc52a0509e4a15aa24f209813182dec28966d29734cf5496d8d"), looks := true }, kinds := [], alts := [], laidByText := true, laidKinds := [.data, .data, .widerDeep, .widerDeep, .data, .data, .data, .data, .data, .sentinel, .sentinel, .pinned, .pinned], laidTests := true, laidLooks := .later }
def FnGjResultArrayOfCardSaid : Prop := Claim7.holds Tryz.pinned (.plain (OpenSpec.ofChange fnGjResultArrayOfSpec)) fnGjResultArrayOfCard

/-- THE TIED CARD OF 'laws.FnFjOne'. -/
def fnFjOneCard : Claim7 := { stood := { row := fnFjOneRow, standIns := [], harness := (true, "c87cbb5bc907ebc52a0509e4a15aa24f209813182dec28966d29734cf5496d8d"), looks := true }, kinds := [], alts := [], laidByText := true, laidKinds := [.data, .data, .widerDeep, .widerDeep, .data, .data, .data, .data, .data, .data, .data, .data, .sentinel, .sentinel, .data, .pinned, .pinned], laidTests := true, laidLooks := .later }
def FnFjOneCardSaid : Prop := Claim7.holds Tryz.pinned (.plain (OpenSpec.ofChange fnFjOneSpec)) fnFjOneCard

/-- THE TIED CARD OF 'laws.FnSjBuildValid'. -/
def fnSjBuildValidCard : Claim7 := { stood := { row := fnSjBuildValidRow, standIns := [], harness := (true, "c87cbb5bc907ebc52a0509e4a15aa24f209813182dec28966d29734cf5496d8d"), looks := true }, kinds := [], alts := [], laidByText := true, laidKinds := [.data, .data, .widerDeep, .widerDeep, .data, .data, .data, .data, .data, .data, .sentinel, .sentinel, .data, .pinned, .pinned, .pinned], laidTests := true, laidLooks := .later }
def FnSjBuildValidCardSaid : Prop := Claim7.holds Tryz.pinned (.plain (OpenSpec.ofChange fnSjBuildValidSpec)) fnSjBuildValidCard

/-- THE TIED CARD OF 'laws.FnGjJoinTwice'. -/
def fnGjJoinTwiceCard : Claim7 := { stood := { row := fnGjJoinTwiceRow, standIns := [], harness := (true, "c87cbb5bc907ebc52a0509e4a15aa24f209813182dec28966d29734cf5496d8d"), looks := true }, kinds := [], alts := [], laidByText := true, laidKinds := [.data, .data, .widerDeep, .widerDeep, .data, .data, .data, .data, .data, .sentinel, .sentinel, .data, .pinned, .pinned], laidTests := true, laidLooks := .later }
def FnGjJoinTwiceCardSaid : Prop := Claim7.holds Tryz.pinned (.plain (OpenSpec.ofChange fnGjJoinTwiceSpec)) fnGjJoinTwiceCard

/-- THE SECOND FORM's CARD OF 'laws.FnGjResultArrayOf'. -/
def fnGjResultArrayOfUptoCard : Claim7 := { stood := { row := fnGjResultArrayOfUptoRow, standIns := [], harness := (true, "c87cbb5bc907ebc52a0509e4a15aa24f209813182dec28966d29734cf5496d8d"), looks := true }, kinds := [], alts := [], laidByText := true, laidKinds := [.data, .data, .widerDeep, .widerDeep, .data, .data, .data, .data, .data, .sentinel, .sentinel, .pinned, .pinned], laidTests := true, laidLooks := .later }
def FnGjResultArrayOfUptoCardSaid : Prop := Claim7.holds Tryz.pinned (.plain (OpenSpec.upto fnGjResultArrayOfSpec)) fnGjResultArrayOfUptoCard

/-- THE SECOND FORM's CARD OF 'laws.FnFjOne'. -/
def fnFjOneUptoCard : Claim7 := { stood := { row := fnFjOneUptoRow, standIns := [], harness := (true, "c87cbb5bc907ebc52a0509e4a15aa24f209813182dec28966d29734cf5496d8d"), looks := true }, kinds := [], alts := [], laidByText := true, laidKinds := [.data, .data, .widerDeep, .widerDeep, .data, .data, .data, .data, .data, .data, .data, .data, .sentinel, .sentinel, .data, .pinned, .pinned], laidTests := true, laidLooks := .later }
def FnFjOneUptoCardSaid : Prop := Claim7.holds Tryz.pinned (.plain (OpenSpec.upto fnFjOneSpec)) fnFjOneUptoCard

/-- THE SECOND FORM's CARD OF 'laws.FnSjBuildValid'. -/
def fnSjBuildValidUptoCard : Claim7 := { stood := { row := fnSjBuildValidUptoRow, standIns := [], harness := (true, "c87cbb5bc907ebc52a0509e4a15aa24f209813182dec28966d29734cf5496d8d"), looks := true }, kinds := [], alts := [], laidByText := true, laidKinds := [.data, .data, .widerDeep, .widerDeep, .data, .data, .data, .data, .data, .data, .sentinel, .sentinel, .data, .pinned, .pinned, .pinned], laidTests := true, laidLooks := .later }
def FnSjBuildValidUptoCardSaid : Prop := Claim7.holds Tryz.pinned (.plain (OpenSpec.upto fnSjBuildValidSpec)) fnSjBuildValidUptoCard

/-- THE SECOND FORM's CARD OF 'laws.FnGjJoinTwice'. -/
def fnGjJoinTwiceUptoCard : Claim7 := { stood := { row := fnGjJoinTwiceUptoRow, standIns := [], harness := (true, "c87cbb5bc907ebc52a0509e4a15aa24f209813182dec28966d29734cf5496d8d"), looks := true }, kinds := [], alts := [], laidByText := true, laidKinds := [.data, .data, .widerDeep, .widerDeep, .data, .data, .data, .data, .data, .sentinel, .sentinel, .data, .pinned, .pinned], laidTests := true, laidLooks := .later }
def FnGjJoinTwiceUptoCardSaid : Prop := Claim7.holds Tryz.pinned (.plain (OpenSpec.upto fnGjJoinTwiceSpec)) fnGjJoinTwiceUptoCard
end Rows
end Go.Proofs.YtnejkimpkaopoaaGreatDoor
