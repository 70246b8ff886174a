/-
  DERIVED. GIVEN WITH THE SEED: THE CARDS: each row of YtpkilegnokajmaaGreatDoorRows.lean that lists a variable, with what it lists TIED to the program's text (the seventh form; the later family's looks); each row that meets fmt, with fmt's text TOLD by the authors' own Lean function (tested against real Go, not proved from fmt's source: count such statements apart). THE CARD IS WHAT COUNTS. Prove the row's statement (the work); the ties are given (YtpkilegnokajmaaGreatDoorTie.lean); close each card by the builder's one call (the guide's Derived/Test/ToyasCard.lean, 'card_holds'). Laid BY PROGRAM, IN A SANDBOX (cutbox-door.mjs). By AI agents, Wed Nov 11 2026. No macro, syntax, notation, axiom, sorry.
-/
import Derived.Test.YtpkilegnokajmaaGreatDoorRows
import GoSem.ClaimSeven
namespace Go.Proofs.YtpkilegnokajmaaGreatDoor
namespace Rows

/-- THE TIED CARD OF 'laws.FnScript'. -/
def fnScriptCard : Claim7 := { stood := { row := fnScriptRow, standIns := [], harness := (true, "6b68317cb1d83d4b9281e1274804ec94fc803732e7e83d987d4eae5cc8cf8143"), looks := true }, kinds := [], alts := [], laidByText := true, laidKinds := [.data, .data, .data, .sentinel, .sentinel, .sentinel, .sentinel, .sentinel, .sentinel, .sentinel, .mapped], laidTests := true, laidLooks := .later }
def FnScriptCardSaid : Prop := Claim7.holds Tryz.pinned (.plain (OpenSpec.ofChange fnScriptSpec)) fnScriptCard

/-- THE TIED CARD OF 'laws.FnInPieces'. -/
def fnInPiecesCard : Claim7 := { stood := { row := fnInPiecesRow, standIns := [], harness := (true, "6b68317cb1d83d4b9281e1274804ec94fc803732e7e83d987d4eae5cc8cf8143"), looks := true }, kinds := [], alts := [], laidByText := true, laidKinds := [.data, .data, .data, .sentinel, .sentinel, .sentinel, .sentinel, .sentinel, .sentinel, .sentinel, .mapped], laidTests := true, laidLooks := .later }
def FnInPiecesCardSaid : Prop := Claim7.holds Tryz.pinned (.plain (OpenSpec.ofChange fnInPiecesSpec)) fnInPiecesCard

/-- THE SECOND FORM's CARD OF 'laws.FnScript'. -/
def fnScriptUptoCard : Claim7 := { stood := { row := fnScriptUptoRow, standIns := [], harness := (true, "6b68317cb1d83d4b9281e1274804ec94fc803732e7e83d987d4eae5cc8cf8143"), looks := true }, kinds := [], alts := [], laidByText := true, laidKinds := [.data, .data, .data, .sentinel, .sentinel, .sentinel, .sentinel, .sentinel, .sentinel, .sentinel, .mapped], laidTests := true, laidLooks := .later }
def FnScriptUptoCardSaid : Prop := Claim7.holds Tryz.pinned (.plain (OpenSpec.upto fnScriptSpec)) fnScriptUptoCard

/-- THE SECOND FORM's CARD OF 'laws.FnInPieces'. -/
def fnInPiecesUptoCard : Claim7 := { stood := { row := fnInPiecesUptoRow, standIns := [], harness := (true, "6b68317cb1d83d4b9281e1274804ec94fc803732e7e83d987d4eae5cc8cf8143"), looks := true }, kinds := [], alts := [], laidByText := true, laidKinds := [.data, .data, .data, .sentinel, .sentinel, .sentinel, .sentinel, .sentinel, .sentinel, .sentinel, .mapped], laidTests := true, laidLooks := .later }
def FnInPiecesUptoCardSaid : Prop := Claim7.holds Tryz.pinned (.plain (OpenSpec.upto fnInPiecesSpec)) fnInPiecesUptoCard
end Rows
end Go.Proofs.YtpkilegnokajmaaGreatDoor
