/-
  DERIVED. GIVEN WITH THE SEED: THE CARDS: each row of YtlapehcngmiaaaaDoorRows.lean that lists a variable, with what it lists TIED to the program's text (the seventh form; the later family's looks); each row that meets fmt, with fmt's text TOLD by the authors' own Lean function (tested against real Go, not proved from fmt's source: count such statements apart). THE CARD IS WHAT COUNTS. Prove the row's statement (the work); the ties are given (YtlapehcngmiaaaaDoorTie.lean); close each card by the builder's one call (the guide's Derived/Test/ToyasCard.lean, 'card_holds'). Laid BY PROGRAM, IN A SANDBOX (cutbox-door.mjs). By AI agents, Wed Nov 11 2026. No macro, syntax, notation, axiom, sorry.
-/
import Derived.Test.YtlapehcngmiaaaaDoorRows
import GoSem.ClaimSeven
namespace Go.Proofs.YtlapehcngmiaaaaDoor
namespace Rows

/-- THE TIED CARD OF 'laws.FnNoWord'. -/
def fnNoWordCard : Claim7 := { stood := { row := fnNoWordRow, standIns := [], harness := (true, "5b85f5ab3082041cd418afdfc0f42b72c1b07203d0ec9a43383b686252b05531"), looks := true }, kinds := [], alts := [], laidByText := true, laidKinds := [.data, .sentinel, .sentinel, .sentinel, .data, .data, .sentinel, .pinned, .pinned], laidTests := true, laidLooks := .later }
def FnNoWordCardSaid : Prop := Claim7.holds Tryd.pinned (.plain (OpenSpec.ofChange fnNoWordSpec)) fnNoWordCard

/-- THE TIED CARD OF 'laws.FnExactWordB'. -/
def fnExactWordBCard : Claim7 := { stood := { row := fnExactWordBRow, standIns := [], harness := (true, "5b85f5ab3082041cd418afdfc0f42b72c1b07203d0ec9a43383b686252b05531"), looks := true }, kinds := [], alts := [], laidByText := true, laidKinds := [.data, .sentinel, .sentinel, .sentinel, .data, .data, .sentinel, .pinned, .pinned], laidTests := true, laidLooks := .later }
def FnExactWordBCardSaid : Prop := Claim7.holds Tryd.pinned (.plain (OpenSpec.ofChange fnExactWordBSpec)) fnExactWordBCard

/-- THE TIED CARD OF 'laws.FnExactWordQ'. -/
def fnExactWordQCard : Claim7 := { stood := { row := fnExactWordQRow, standIns := [], harness := (true, "5b85f5ab3082041cd418afdfc0f42b72c1b07203d0ec9a43383b686252b05531"), looks := true }, kinds := [], alts := [], laidByText := true, laidKinds := [.data, .sentinel, .sentinel, .sentinel, .data, .data, .sentinel, .pinned, .pinned], laidTests := true, laidLooks := .later }
def FnExactWordQCardSaid : Prop := Claim7.holds Tryd.pinned (.plain (OpenSpec.ofChange fnExactWordQSpec)) fnExactWordQCard

/-- THE TIED CARD OF 'laws.FnExactHeader'. -/
def fnExactHeaderCard : Claim7 := { stood := { row := fnExactHeaderRow, standIns := [], harness := (true, "5b85f5ab3082041cd418afdfc0f42b72c1b07203d0ec9a43383b686252b05531"), looks := true }, kinds := [], alts := [], laidByText := true, laidKinds := [.data, .sentinel, .sentinel, .sentinel, .data, .data, .sentinel, .pinned, .pinned], laidTests := true, laidLooks := .later }
def FnExactHeaderCardSaid : Prop := Claim7.holds Tryd.pinned (.plain (OpenSpec.ofChange fnExactHeaderSpec)) fnExactHeaderCard

/-- THE SECOND FORM's CARD OF 'laws.FnNoWord'. -/
def fnNoWordUptoCard : Claim7 := { stood := { row := fnNoWordUptoRow, standIns := [], harness := (true, "5b85f5ab3082041cd418afdfc0f42b72c1b07203d0ec9a43383b686252b05531"), looks := true }, kinds := [], alts := [], laidByText := true, laidKinds := [.data, .sentinel, .sentinel, .sentinel, .data, .data, .sentinel, .pinned, .pinned], laidTests := true, laidLooks := .later }
def FnNoWordUptoCardSaid : Prop := Claim7.holds Tryd.pinned (.plain (OpenSpec.upto fnNoWordSpec)) fnNoWordUptoCard

/-- THE SECOND FORM's CARD OF 'laws.FnExactWordB'. -/
def fnExactWordBUptoCard : Claim7 := { stood := { row := fnExactWordBUptoRow, standIns := [], harness := (true, "5b85f5ab3082041cd418afdfc0f42b72c1b07203d0ec9a43383b686252b05531"), looks := true }, kinds := [], alts := [], laidByText := true, laidKinds := [.data, .sentinel, .sentinel, .sentinel, .data, .data, .sentinel, .pinned, .pinned], laidTests := true, laidLooks := .later }
def FnExactWordBUptoCardSaid : Prop := Claim7.holds Tryd.pinned (.plain (OpenSpec.upto fnExactWordBSpec)) fnExactWordBUptoCard

/-- THE SECOND FORM's CARD OF 'laws.FnExactWordQ'. -/
def fnExactWordQUptoCard : Claim7 := { stood := { row := fnExactWordQUptoRow, standIns := [], harness := (true, "5b85f5ab3082041cd418afdfc0f42b72c1b07203d0ec9a43383b686252b05531"), looks := true }, kinds := [], alts := [], laidByText := true, laidKinds := [.data, .sentinel, .sentinel, .sentinel, .data, .data, .sentinel, .pinned, .pinned], laidTests := true, laidLooks := .later }
def FnExactWordQUptoCardSaid : Prop := Claim7.holds Tryd.pinned (.plain (OpenSpec.upto fnExactWordQSpec)) fnExactWordQUptoCard

/-- THE SECOND FORM's CARD OF 'laws.FnExactHeader'. -/
def fnExactHeaderUptoCard : Claim7 := { stood := { row := fnExactHeaderUptoRow, standIns := [], harness := (true, "5b85f5ab3082041cd418afdfc0f42b72c1b07203d0ec9a43383b686252b05531"), looks := true }, kinds := [], alts := [], laidByText := true, laidKinds := [.data, .sentinel, .sentinel, .sentinel, .data, .data, .sentinel, .pinned, .pinned], laidTests := true, laidLooks := .later }
def FnExactHeaderUptoCardSaid : Prop := Claim7.holds Tryd.pinned (.plain (OpenSpec.upto fnExactHeaderSpec)) fnExactHeaderUptoCard
end Rows
end Go.Proofs.YtlapehcngmiaaaaDoor
