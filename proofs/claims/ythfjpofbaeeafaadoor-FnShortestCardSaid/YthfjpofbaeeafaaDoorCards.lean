/-
  DERIVED. GIVEN WITH THE SEED: THE CARDS: each row of YthfjpofbaeeafaaDoorRows.lean that lists a variable, with what it lists TIED to the program's text (the seventh form; the later family's looks); each row that meets fmt, with fmt's text TOLD by the authors' own Lean function (tested against real Go, not proved from fmt's source: count such statements apart). THE CARD IS WHAT COUNTS. Prove the row's statement (the work); the ties are given (YthfjpofbaeeafaaDoorTie.lean); close each card by the builder's one call (the guide's Derived/Test/ToyasCard.lean, 'card_holds'). Laid BY PROGRAM, IN A SANDBOX (cutbox-door.mjs). By AI agents, Wed Nov 11 2026. No macro, syntax, notation, axiom, sorry.
-/
import Derived.Test.YthfjpofbaeeafaaDoorRows
import GoSem.ClaimSeven
namespace Go.Proofs.YthfjpofbaeeafaaDoor
namespace Rows

/-- THE TIED CARD OF 'laws.FnExponent'. -/
def fnExponentCard : Claim7 := { stood := { row := fnExponentRow, standIns := [], harness := (true, "e8a134f587c38a65895a01424919de27ce0a8d7f50127be603239eb5337e4d27"), looks := false }, kinds := [], alts := [], laidByText := true, laidKinds := [.data, .data, .data, .data, .pinned, .pinned], laidTests := true, laidLooks := .later }
def FnExponentCardSaid : Prop := Claim7.holds Tryd.pinned (.plain (OpenSpec.ofChange fnExponentSpec)) fnExponentCard

/-- THE TIED CARD OF 'laws.FnFixed'. -/
def fnFixedCard : Claim7 := { stood := { row := fnFixedRow, standIns := [], harness := (true, "e8a134f587c38a65895a01424919de27ce0a8d7f50127be603239eb5337e4d27"), looks := false }, kinds := [], alts := [], laidByText := true, laidKinds := [.data, .data, .data, .data, .pinned, .pinned], laidTests := true, laidLooks := .later }
def FnFixedCardSaid : Prop := Claim7.holds Tryd.pinned (.plain (OpenSpec.ofChange fnFixedSpec)) fnFixedCard

/-- THE TIED CARD OF 'laws.FnFloatFlags'. -/
def fnFloatFlagsCard : Claim7 := { stood := { row := fnFloatFlagsRow, standIns := [], harness := (true, "e8a134f587c38a65895a01424919de27ce0a8d7f50127be603239eb5337e4d27"), looks := false }, kinds := [], alts := [], laidByText := true, laidKinds := [.data, .data, .data, .data, .pinned, .pinned], laidTests := true, laidLooks := .later }
def FnFloatFlagsCardSaid : Prop := Claim7.holds Tryd.pinned (.plain (OpenSpec.ofChange fnFloatFlagsSpec)) fnFloatFlagsCard

/-- THE TIED CARD OF 'laws.FnG'. -/
def fnGCard : Claim7 := { stood := { row := fnGRow, standIns := [], harness := (true, "e8a134f587c38a65895a01424919de27ce0a8d7f50127be603239eb5337e4d27"), looks := false }, kinds := [], alts := [], laidByText := true, laidKinds := [.data, .data, .data, .data, .pinned, .pinned], laidTests := true, laidLooks := .later }
def FnGCardSaid : Prop := Claim7.holds Tryd.pinned (.plain (OpenSpec.ofChange fnGSpec)) fnGCard

/-- THE TIED CARD OF 'laws.FnPower'. -/
def fnPowerCard : Claim7 := { stood := { row := fnPowerRow, standIns := [], harness := (true, "e8a134f587c38a65895a01424919de27ce0a8d7f50127be603239eb5337e4d27"), looks := false }, kinds := [], alts := [], laidByText := true, laidKinds := [.data, .data, .data, .data, .pinned, .pinned], laidTests := true, laidLooks := .later }
def FnPowerCardSaid : Prop := Claim7.holds Tryd.pinned (.plain (OpenSpec.ofChange fnPowerSpec)) fnPowerCard

/-- THE TIED CARD OF 'laws.FnSharpG'. -/
def fnSharpGCard : Claim7 := { stood := { row := fnSharpGRow, standIns := [], harness := (true, "e8a134f587c38a65895a01424919de27ce0a8d7f50127be603239eb5337e4d27"), looks := false }, kinds := [], alts := [], laidByText := true, laidKinds := [.data, .data, .data, .data, .pinned, .pinned], laidTests := true, laidLooks := .later }
def FnSharpGCardSaid : Prop := Claim7.holds Tryd.pinned (.plain (OpenSpec.ofChange fnSharpGSpec)) fnSharpGCard

/-- THE TIED CARD OF 'laws.FnSharpPoint'. -/
def fnSharpPointCard : Claim7 := { stood := { row := fnSharpPointRow, standIns := [], harness := (true, "e8a134f587c38a65895a01424919de27ce0a8d7f50127be603239eb5337e4d27"), looks := false }, kinds := [], alts := [], laidByText := true, laidKinds := [.data, .data, .data, .data, .pinned, .pinned], laidTests := true, laidLooks := .later }
def FnSharpPointCardSaid : Prop := Claim7.holds Tryd.pinned (.plain (OpenSpec.ofChange fnSharpPointSpec)) fnSharpPointCard

/-- THE TIED CARD OF 'laws.FnShortest'. -/
def fnShortestCard : Claim7 := { stood := { row := fnShortestRow, standIns := [], harness := (true, "e8a134f587c38a65895a01424919de27ce0a8d7f50127be603239eb5337e4d27"), looks := false }, kinds := [], alts := [], laidByText := true, laidKinds := [.data, .data, .data, .data, .pinned, .pinned], laidTests := true, laidLooks := .later }
def FnShortestCardSaid : Prop := Claim7.holds Tryd.pinned (.plain (OpenSpec.ofChange fnShortestSpec)) fnShortestCard

/-- THE SECOND FORM's CARD OF 'laws.FnExponent'. -/
def fnExponentUptoCard : Claim7 := { stood := { row := fnExponentUptoRow, standIns := [], harness := (true, "e8a134f587c38a65895a01424919de27ce0a8d7f50127be603239eb5337e4d27"), looks := false }, kinds := [], alts := [], laidByText := true, laidKinds := [.data, .data, .data, .data, .pinned, .pinned], laidTests := true, laidLooks := .later }
def FnExponentUptoCardSaid : Prop := Claim7.holds Tryd.pinned (.plain (OpenSpec.upto fnExponentSpec)) fnExponentUptoCard

/-- THE SECOND FORM's CARD OF 'laws.FnFixed'. -/
def fnFixedUptoCard : Claim7 := { stood := { row := fnFixedUptoRow, standIns := [], harness := (true, "e8a134f587c38a65895a01424919de27ce0a8d7f50127be603239eb5337e4d27"), looks := false }, kinds := [], alts := [], laidByText := true, laidKinds := [.data, .data, .data, .data, .pinned, .pinned], laidTests := true, laidLooks := .later }
def FnFixedUptoCardSaid : Prop := Claim7.holds Tryd.pinned (.plain (OpenSpec.upto fnFixedSpec)) fnFixedUptoCard

/-- THE SECOND FORM's CARD OF 'laws.FnFloatFlags'. -/
def fnFloatFlagsUptoCard : Claim7 := { stood := { row := fnFloatFlagsUptoRow, standIns := [], harness := (true, "e8a134f587c38a65895a01424919de27ce0a8d7f50127be603239eb5337e4d27"), looks := false }, kinds := [], alts := [], laidByText := true, laidKinds := [.data, .data, .data, .data, .pinned, .pinned], laidTests := true, laidLooks := .later }
def FnFloatFlagsUptoCardSaid : Prop := Claim7.holds Tryd.pinned (.plain (OpenSpec.upto fnFloatFlagsSpec)) fnFloatFlagsUptoCard

/-- THE SECOND FORM's CARD OF 'laws.FnG'. -/
def fnGUptoCard : Claim7 := { stood := { row := fnGUptoRow, standIns := [], harness := (true, "e8a134f587c38a65895a01424919de27ce0a8d7f50127be603239eb5337e4d27"), looks := false }, kinds := [], alts := [], laidByText := true, laidKinds := [.data, .data, .data, .data, .pinned, .pinned], laidTests := true, laidLooks := .later }
def FnGUptoCardSaid : Prop := Claim7.holds Tryd.pinned (.plain (OpenSpec.upto fnGSpec)) fnGUptoCard

/-- THE SECOND FORM's CARD OF 'laws.FnPower'. -/
def fnPowerUptoCard : Claim7 := { stood := { row := fnPowerUptoRow, standIns := [], harness := (true, "e8a134f587c38a65895a01424919de27ce0a8d7f50127be603239eb5337e4d27"), looks := false }, kinds := [], alts := [], laidByText := true, laidKinds := [.data, .data, .data, .data, .pinned, .pinned], laidTests := true, laidLooks := .later }
def FnPowerUptoCardSaid : Prop := Claim7.holds Tryd.pinned (.plain (OpenSpec.upto fnPowerSpec)) fnPowerUptoCard

/-- THE SECOND FORM's CARD OF 'laws.FnSharpG'. -/
def fnSharpGUptoCard : Claim7 := { stood := { row := fnSharpGUptoRow, standIns := [], harness := (true, "e8a134f587c38a65895a01424919de27ce0a8d7f50127be603239eb5337e4d27"), looks := false }, kinds := [], alts := [], laidByText := true, laidKinds := [.data, .data, .data, .data, .pinned, .pinned], laidTests := true, laidLooks := .later }
def FnSharpGUptoCardSaid : Prop := Claim7.holds Tryd.pinned (.plain (OpenSpec.upto fnSharpGSpec)) fnSharpGUptoCard

/-- THE SECOND FORM's CARD OF 'laws.FnSharpPoint'. -/
def fnSharpPointUptoCard : Claim7 := { stood := { row := fnSharpPointUptoRow, standIns := [], harness := (true, "e8a134f587c38a65895a01424919de27ce0a8d7f50127be603239eb5337e4d27"), looks := false }, kinds := [], alts := [], laidByText := true, laidKinds := [.data, .data, .data, .data, .pinned, .pinned], laidTests := true, laidLooks := .later }
def FnSharpPointUptoCardSaid : Prop := Claim7.holds Tryd.pinned (.plain (OpenSpec.upto fnSharpPointSpec)) fnSharpPointUptoCard

/-- THE SECOND FORM's CARD OF 'laws.FnShortest'. -/
def fnShortestUptoCard : Claim7 := { stood := { row := fnShortestUptoRow, standIns := [], harness := (true, "e8a134f587c38a65895a01424919de27ce0a8d7f50127be603239eb5337e4d27"), looks := false }, kinds := [], alts := [], laidByText := true, laidKinds := [.data, .data, .data, .data, .pinned, .pinned], laidTests := true, laidLooks := .later }
def FnShortestUptoCardSaid : Prop := Claim7.holds Tryd.pinned (.plain (OpenSpec.upto fnShortestSpec)) fnShortestUptoCard
end Rows
end Go.Proofs.YthfjpofbaeeafaaDoor
