/-
  DERIVED. GIVEN WITH THE SEED: THE CARDS: each row of YtkcdocdldebeoaaDoorRows.lean that lists a variable, with what it lists TIED to the program's text (the seventh form; the later family's looks); each row that meets fmt, with fmt's text TOLD by the authors' own Lean function (tested against real Go, not proved from fmt's source: count such statements apart). THE CARD IS WHAT COUNTS. Prove the row's statement (the work); the ties are given (YtkcdocdldebeoaaDoorTie.lean); close each card by the builder's one call (the guide's Derived/Test/ToyasCard.lean, 'card_holds'). Laid BY PROGRAM, IN A SANDBOX (cutbox-door.mjs). By AI agents, Wed Nov 11 2026. No macro, syntax, notation, axiom, sorry.
-/
import Derived.Test.YtkcdocdldebeoaaDoorRows
import GoSem.ClaimSeven
namespace Go.Proofs.YtkcdocdldebeoaaDoor
namespace Rows

/-- THE TIED CARD OF 'laws.FnDefaultInitProducerIDResponse'. -/
def fnDefaultInitProducerIDResponseCard : Claim7 := { stood := { row := fnDefaultInitProducerIDResponseRow, standIns := [], harness := (true, "a1d8faba7eaee5b8ac9c0a59e6d7891fa1942bc909e278ebf01ec894b9b220a9"), looks := false }, kinds := [], alts := [], laidByText := true, laidKinds := [.sentinel], laidTests := true, laidLooks := .later }
def FnDefaultInitProducerIDResponseCardSaid : Prop := Claim7.holds Tryd.pinned (.plain (OpenSpec.ofChange fnDefaultInitProducerIDResponseSpec)) fnDefaultInitProducerIDResponseCard

/-- THE TIED CARD OF 'laws.FnDefaultBrokerHeartbeatResponse'. -/
def fnDefaultBrokerHeartbeatResponseCard : Claim7 := { stood := { row := fnDefaultBrokerHeartbeatResponseRow, standIns := [], harness := (true, "a1d8faba7eaee5b8ac9c0a59e6d7891fa1942bc909e278ebf01ec894b9b220a9"), looks := false }, kinds := [], alts := [], laidByText := true, laidKinds := [.sentinel], laidTests := true, laidLooks := .later }
def FnDefaultBrokerHeartbeatResponseCardSaid : Prop := Claim7.holds Tryd.pinned (.plain (OpenSpec.ofChange fnDefaultBrokerHeartbeatResponseSpec)) fnDefaultBrokerHeartbeatResponseCard

/-- THE TIED CARD OF 'laws.FnBehindPushTelemetryResponse'. -/
def fnBehindPushTelemetryResponseCard : Claim7 := { stood := { row := fnBehindPushTelemetryResponseRow, standIns := [], harness := (true, "a1d8faba7eaee5b8ac9c0a59e6d7891fa1942bc909e278ebf01ec894b9b220a9"), looks := false }, kinds := [], alts := [], laidByText := true, laidKinds := [.sentinel], laidTests := true, laidLooks := .later }
def FnBehindPushTelemetryResponseCardSaid : Prop := Claim7.holds Tryd.pinned (.plain (OpenSpec.ofChange fnBehindPushTelemetryResponseSpec)) fnBehindPushTelemetryResponseCard

/-- THE SECOND FORM's CARD OF 'laws.FnDefaultInitProducerIDResponse'. -/
def fnDefaultInitProducerIDResponseUptoCard : Claim7 := { stood := { row := fnDefaultInitProducerIDResponseUptoRow, standIns := [], harness := (true, "a1d8faba7eaee5b8ac9c0a59e6d7891fa1942bc909e278ebf01ec894b9b220a9"), looks := false }, kinds := [], alts := [], laidByText := true, laidKinds := [.sentinel], laidTests := true, laidLooks := .later }
def FnDefaultInitProducerIDResponseUptoCardSaid : Prop := Claim7.holds Tryd.pinned (.plain (OpenSpec.upto fnDefaultInitProducerIDResponseSpec)) fnDefaultInitProducerIDResponseUptoCard

/-- THE SECOND FORM's CARD OF 'laws.FnDefaultBrokerHeartbeatResponse'. -/
def fnDefaultBrokerHeartbeatResponseUptoCard : Claim7 := { stood := { row := fnDefaultBrokerHeartbeatResponseUptoRow, standIns := [], harness := (true, "a1d8faba7eaee5b8ac9c0a59e6d7891fa1942bc909e278ebf01ec894b9b220a9"), looks := false }, kinds := [], alts := [], laidByText := true, laidKinds := [.sentinel], laidTests := true, laidLooks := .later }
def FnDefaultBrokerHeartbeatResponseUptoCardSaid : Prop := Claim7.holds Tryd.pinned (.plain (OpenSpec.upto fnDefaultBrokerHeartbeatResponseSpec)) fnDefaultBrokerHeartbeatResponseUptoCard

/-- THE SECOND FORM's CARD OF 'laws.FnBehindPushTelemetryResponse'. -/
def fnBehindPushTelemetryResponseUptoCard : Claim7 := { stood := { row := fnBehindPushTelemetryResponseUptoRow, standIns := [], harness := (true, "a1d8faba7eaee5b8ac9c0a59e6d7891fa1942bc909e278ebf01ec894b9b220a9"), looks := false }, kinds := [], alts := [], laidByText := true, laidKinds := [.sentinel], laidTests := true, laidLooks := .later }
def FnBehindPushTelemetryResponseUptoCardSaid : Prop := Claim7.holds Tryd.pinned (.plain (OpenSpec.upto fnBehindPushTelemetryResponseSpec)) fnBehindPushTelemetryResponseUptoCard
end Rows
end Go.Proofs.YtkcdocdldebeoaaDoor
