/-
  DERIVED. GIVEN WITH THE SEED: THE CARDS: each row of YtepbicjadambbaaDoorRows.lean that lists a variable, with what it lists TIED to the program's text (the seventh form; the later family's looks); each row that meets fmt, with fmt's text TOLD by the authors' own Lean function (tested against real Go, not proved from fmt's source: count such statements apart). THE CARD IS WHAT COUNTS. Prove the row's statement (the work); the ties are given (YtepbicjadambbaaDoorTie.lean); close each card by the builder's one call (the guide's Derived/Test/ToyasCard.lean, 'card_holds'). Laid BY PROGRAM, IN A SANDBOX (cutbox-door.mjs). By AI agents, Wed Nov 11 2026. No macro, syntax, notation, axiom, sorry.
-/
import Derived.Test.YtepbicjadambbaaDoorRows
import GoSem.ClaimSeven
namespace Go.Proofs.YtepbicjadambbaaDoor
namespace Rows

/-- THE TIED CARD OF 'laws.FnFrameOffsetDeleteRequest'. -/
def fnFrameOffsetDeleteRequestCard : Claim7 := { stood := { row := fnFrameOffsetDeleteRequestRow, standIns := [], harness := (true, "9f294ca07aee24539a33ee344e47a732a86e1a0fac969d0ed507fba4b2e5e99c"), looks := false }, kinds := [], alts := [], laidByText := true, laidKinds := [.sentinel], laidTests := true, laidLooks := .later }
def FnFrameOffsetDeleteRequestCardSaid : Prop := Claim7.holds Tryd.pinned (.plain (OpenSpec.ofChange fnFrameOffsetDeleteRequestSpec)) fnFrameOffsetDeleteRequestCard

/-- THE SECOND FORM's CARD OF 'laws.FnFrameOffsetDeleteRequest'. -/
def fnFrameOffsetDeleteRequestUptoCard : Claim7 := { stood := { row := fnFrameOffsetDeleteRequestUptoRow, standIns := [], harness := (true, "9f294ca07aee24539a33ee344e47a732a86e1a0fac969d0ed507fba4b2e5e99c"), looks := false }, kinds := [], alts := [], laidByText := true, laidKinds := [.sentinel], laidTests := true, laidLooks := .later }
def FnFrameOffsetDeleteRequestUptoCardSaid : Prop := Claim7.holds Tryd.pinned (.plain (OpenSpec.upto fnFrameOffsetDeleteRequestSpec)) fnFrameOffsetDeleteRequestUptoCard
end Rows
end Go.Proofs.YtepbicjadambbaaDoor
