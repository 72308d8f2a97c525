/-
  DERIVED. GIVEN WITH THE SEED: THE CARDS: each row of YtepbicjadambbabGreatDoorRows.lean that lists a variable, with what it lists TIED to the program's text (the seventh form; the later family's looks); each row that meets fmt, with fmt's text TOLD by the authors' own Lean function (tested against real Go, not proved from fmt's source: count such statements apart). THE CARD IS WHAT COUNTS. Prove the row's statement (the work); the ties are given (YtepbicjadambbabGreatDoorTie.lean); close each card by the builder's one call (the guide's Derived/Test/ToyasCard.lean, 'card_holds'). Laid BY PROGRAM, IN A SANDBOX (cutbox-door.mjs). By AI agents, Wed Nov 11 2026. No macro, syntax, notation, axiom, sorry.
-/
import Derived.Test.YtepbicjadambbabGreatDoorRows
import GoSem.ClaimSeven
namespace Go.Proofs.YtepbicjadambbabGreatDoor
namespace Rows

/-- THE TIED CARD OF 'laws.FnBehindUpdateRaftVoterResponse'. -/
def fnBehindUpdateRaftVoterResponseCard : Claim7 := { stood := { row := fnBehindUpdateRaftVoterResponseRow, standIns := [], harness := (true, "492a6b16459cd50783072ef23e5e7b24a2fc9c66d2aa67ed8a76b44af15745e5"), looks := false }, kinds := [], alts := [], laidByText := true, laidKinds := [.sentinel], laidTests := true, laidLooks := .later }
def FnBehindUpdateRaftVoterResponseCardSaid : Prop := Claim7.holds Tryz.pinned (.plain (OpenSpec.ofChange fnBehindUpdateRaftVoterResponseSpec)) fnBehindUpdateRaftVoterResponseCard

/-- THE SECOND FORM's CARD OF 'laws.FnBehindUpdateRaftVoterResponse'. -/
def fnBehindUpdateRaftVoterResponseUptoCard : Claim7 := { stood := { row := fnBehindUpdateRaftVoterResponseUptoRow, standIns := [], harness := (true, "492a6b16459cd50783072ef23e5e7b24a2fc9c66d2aa67ed8a76b44af15745e5"), looks := false }, kinds := [], alts := [], laidByText := true, laidKinds := [.sentinel], laidTests := true, laidLooks := .later }
def FnBehindUpdateRaftVoterResponseUptoCardSaid : Prop := Claim7.holds Tryz.pinned (.plain (OpenSpec.upto fnBehindUpdateRaftVoterResponseSpec)) fnBehindUpdateRaftVoterResponseUptoCard
end Rows
end Go.Proofs.YtepbicjadambbabGreatDoor
