/-
  DERIVED. GIVEN WITH THE SEED: THE CARDS: each row of YtglffpjobjpmpaaDoorRows.lean that lists a variable, with what it lists TIED to the program's text (the seventh form; the later family's looks); each row that meets fmt, with fmt's text TOLD by the authors' own Lean function (tested against real Go, not proved from fmt's source: count such statements apart). THE CARD IS WHAT COUNTS. Prove the row's statement (the work); the ties are given (YtglffpjobjpmpaaDoorTie.lean); close each card by the builder's one call (the guide's Derived/Test/ToyasCard.lean, 'card_holds'). Laid BY PROGRAM, IN A SANDBOX (cutbox-door.mjs). By AI agents, Wed Nov 11 2026. No macro, syntax, notation, axiom, sorry.
-/
import Derived.Test.YtglffpjobjpmpaaDoorRows
import GoSem.ClaimSeven
namespace Go.Proofs.YtglffpjobjpmpaaDoor
namespace Rows

/-- THE TIED CARD OF 'laws.FnExactExtended'. -/
def fnExactExtendedCard : Claim7 := { stood := { row := fnExactExtendedRow, standIns := [], harness := (true, "1e8f8cdc2a06bf785bfead28c0337cb5c12b8f7324c43af2e4166f9e3e4c43ab"), looks := false }, kinds := [], alts := [], laidByText := true, laidKinds := [.data, .pinned, .pinned], laidTests := true, laidLooks := .later }
def FnExactExtendedCardSaid : Prop := Claim7.holds Tryd.pinned (.plain (OpenSpec.ofChange fnExactExtendedSpec)) fnExactExtendedCard

/-- THE TIED CARD OF 'laws.FnRefused'. -/
def fnRefusedCard : Claim7 := { stood := { row := fnRefusedRow, standIns := [], harness := (true, "1e8f8cdc2a06bf785bfead28c0337cb5c12b8f7324c43af2e4166f9e3e4c43ab"), looks := false }, kinds := [], alts := [], laidByText := true, laidKinds := [.data, .pinned, .pinned], laidTests := true, laidLooks := .later }
def FnRefusedCardSaid : Prop := Claim7.holds Tryd.pinned (.plain (OpenSpec.ofChange fnRefusedSpec)) fnRefusedCard

/-- THE TIED CARD OF 'laws.FnExactFormat'. -/
def fnExactFormatCard : Claim7 := { stood := { row := fnExactFormatRow, standIns := [], harness := (true, "1e8f8cdc2a06bf785bfead28c0337cb5c12b8f7324c43af2e4166f9e3e4c43ab"), looks := false }, kinds := [], alts := [], laidByText := true, laidKinds := [.data, .pinned, .pinned], laidTests := true, laidLooks := .later }
def FnExactFormatCardSaid : Prop := Claim7.holds Tryd.pinned (.plain (OpenSpec.ofChange fnExactFormatSpec)) fnExactFormatCard

/-- THE SECOND FORM's CARD OF 'laws.FnExactExtended'. -/
def fnExactExtendedUptoCard : Claim7 := { stood := { row := fnExactExtendedUptoRow, standIns := [], harness := (true, "1e8f8cdc2a06bf785bfead28c0337cb5c12b8f7324c43af2e4166f9e3e4c43ab"), looks := false }, kinds := [], alts := [], laidByText := true, laidKinds := [.data, .pinned, .pinned], laidTests := true, laidLooks := .later }
def FnExactExtendedUptoCardSaid : Prop := Claim7.holds Tryd.pinned (.plain (OpenSpec.upto fnExactExtendedSpec)) fnExactExtendedUptoCard

/-- THE SECOND FORM's CARD OF 'laws.FnRefused'. -/
def fnRefusedUptoCard : Claim7 := { stood := { row := fnRefusedUptoRow, standIns := [], harness := (true, "1e8f8cdc2a06bf785bfead28c0337cb5c12b8f7324c43af2e4166f9e3e4c43ab"), looks := false }, kinds := [], alts := [], laidByText := true, laidKinds := [.data, .pinned, .pinned], laidTests := true, laidLooks := .later }
def FnRefusedUptoCardSaid : Prop := Claim7.holds Tryd.pinned (.plain (OpenSpec.upto fnRefusedSpec)) fnRefusedUptoCard

/-- THE SECOND FORM's CARD OF 'laws.FnExactFormat'. -/
def fnExactFormatUptoCard : Claim7 := { stood := { row := fnExactFormatUptoRow, standIns := [], harness := (true, "1e8f8cdc2a06bf785bfead28c0337cb5c12b8f7324c43af2e4166f9e3e4c43ab"), looks := false }, kinds := [], alts := [], laidByText := true, laidKinds := [.data, .pinned, .pinned], laidTests := true, laidLooks := .later }
def FnExactFormatUptoCardSaid : Prop := Claim7.holds Tryd.pinned (.plain (OpenSpec.upto fnExactFormatSpec)) fnExactFormatUptoCard
end Rows
end Go.Proofs.YtglffpjobjpmpaaDoor
