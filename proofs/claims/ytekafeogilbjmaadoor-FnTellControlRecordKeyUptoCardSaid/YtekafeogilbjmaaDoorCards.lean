/-
  DERIVED. GIVEN WITH THE SEED: THE CARDS: each row of YtekafeogilbjmaaDoorRows.lean that lists a variable, with what it lists TIED to the program's text (the seventh form; the later family's looks); each row that meets fmt, with fmt's text TOLD by the authors' own Lean function (tested against real Go, not proved from fmt's source: count such statements apart). THE CARD IS WHAT COUNTS. Prove the row's statement (the work); the ties are given (YtekafeogilbjmaaDoorTie.lean); close each card by the builder's one call (the guide's Derived/Test/ToyasCard.lean, 'card_holds'). Laid BY PROGRAM, IN A SANDBOX (cutbox-door.mjs). By AI agents, Wed Nov 11 2026. No macro, syntax, notation, axiom, sorry.
-/
import Derived.Test.YtekafeogilbjmaaDoorRows
import GoSem.ClaimSeven
namespace Go.Proofs.YtekafeogilbjmaaDoor
namespace Rows

/-- THE TIED CARD OF 'laws.FnTellDeleteGroupsRequest'. -/
def fnTellDeleteGroupsRequestCard : Claim7 := { stood := { row := fnTellDeleteGroupsRequestRow, standIns := [], harness := (true, "abaead65244f96363f4d93d5b7302fe3c79bf44a4d717961d10f29a8d80d54f4"), looks := false }, kinds := [], alts := [], laidByText := true, laidKinds := [.sentinel], laidTests := true, laidLooks := .later }
def FnTellDeleteGroupsRequestCardSaid : Prop := Claim7.holds Tryd.pinned (.plain (OpenSpec.ofChange fnTellDeleteGroupsRequestSpec)) fnTellDeleteGroupsRequestCard

/-- THE TIED CARD OF 'laws.FnTellControlRecordKey'. -/
def fnTellControlRecordKeyCard : Claim7 := { stood := { row := fnTellControlRecordKeyRow, standIns := [], harness := (true, "abaead65244f96363f4d93d5b7302fe3c79bf44a4d717961d10f29a8d80d54f4"), looks := false }, kinds := [], alts := [], laidByText := true, laidKinds := [.sentinel], laidTests := true, laidLooks := .later }
def FnTellControlRecordKeyCardSaid : Prop := Claim7.holds Tryd.pinned (.plain (OpenSpec.ofChange fnTellControlRecordKeySpec)) fnTellControlRecordKeyCard

/-- THE SECOND FORM's CARD OF 'laws.FnTellDeleteGroupsRequest'. -/
def fnTellDeleteGroupsRequestUptoCard : Claim7 := { stood := { row := fnTellDeleteGroupsRequestUptoRow, standIns := [], harness := (true, "abaead65244f96363f4d93d5b7302fe3c79bf44a4d717961d10f29a8d80d54f4"), looks := false }, kinds := [], alts := [], laidByText := true, laidKinds := [.sentinel], laidTests := true, laidLooks := .later }
def FnTellDeleteGroupsRequestUptoCardSaid : Prop := Claim7.holds Tryd.pinned (.plain (OpenSpec.upto fnTellDeleteGroupsRequestSpec)) fnTellDeleteGroupsRequestUptoCard

/-- THE SECOND FORM's CARD OF 'laws.FnTellControlRecordKey'. -/
def fnTellControlRecordKeyUptoCard : Claim7 := { stood := { row := fnTellControlRecordKeyUptoRow, standIns := [], harness := (true, "abaead65244f96363f4d93d5b7302fe3c79bf44a4d717961d10f29a8d80d54f4"), looks := false }, kinds := [], alts := [], laidByText := true, laidKinds := [.sentinel], laidTests := true, laidLooks := .later }
def FnTellControlRecordKeyUptoCardSaid : Prop := Claim7.holds Tryd.pinned (.plain (OpenSpec.upto fnTellControlRecordKeySpec)) fnTellControlRecordKeyUptoCard
end Rows
end Go.Proofs.YtekafeogilbjmaaDoor
