/-
  DERIVED. GIVEN WITH THE SEED: THE CARDS: each row of YteohjnebbndcoaaDoorRows.lean that lists a variable, with what it lists TIED to the program's text (the seventh form; the later family's looks); each row that meets fmt, with fmt's text TOLD by the authors' own Lean function (tested against real Go, not proved from fmt's source: count such statements apart). THE CARD IS WHAT COUNTS. Prove the row's statement (the work); the ties are given (YteohjnebbndcoaaDoorTie.lean); close each card by the builder's one call (the guide's Derived/Test/ToyasCard.lean, 'card_holds'). Laid BY PROGRAM, IN A SANDBOX (cutbox-door.mjs). By AI agents, Wed Nov 11 2026. No macro, syntax, notation, axiom, sorry.
-/
import Derived.Test.YteohjnebbndcoaaDoorRows
import GoSem.ClaimSeven
namespace Go.Proofs.YteohjnebbndcoaaDoor
namespace Rows

/-- THE TIED CARD OF 'laws.FnExactParameter'. -/
def fnExactParameterCard : Claim7 := { stood := { row := fnExactParameterRow, standIns := [], harness := (true, "efb63ada005dd307e424bddf13ac7c590a643d04dc6d978ab1dc9aa86337070c"), looks := true }, kinds := [], alts := [], laidByText := true, laidKinds := [.data, .listed, .pinned, .pinned], laidTests := true, laidLooks := .later }
def FnExactParameterCardSaid : Prop := Claim7.holds Tryd.pinned (.plain (OpenSpec.ofChange fnExactParameterSpec)) fnExactParameterCard

/-- THE TIED CARD OF 'laws.FnTwice'. -/
def fnTwiceCard : Claim7 := { stood := { row := fnTwiceRow, standIns := [], harness := (true, "efb63ada005dd307e424bddf13ac7c590a643d04dc6d978ab1dc9aa86337070c"), looks := true }, kinds := [], alts := [], laidByText := true, laidKinds := [.data, .data, .data, .data, .listed, .data, .sentinel, .sentinel, .sentinel, .sentinel, .sentinel, .sentinel, .pinned, .pinned], laidTests := true, laidLooks := .later }
def FnTwiceCardSaid : Prop := Claim7.holds Tryd.pinned (.plain (OpenSpec.ofChange fnTwiceSpec)) fnTwiceCard

/-- THE SECOND FORM's CARD OF 'laws.FnExactParameter'. -/
def fnExactParameterUptoCard : Claim7 := { stood := { row := fnExactParameterUptoRow, standIns := [], harness := (true, "efb63ada005dd307e424bddf13ac7c590a643d04dc6d978ab1dc9aa86337070c"), looks := true }, kinds := [], alts := [], laidByText := true, laidKinds := [.data, .listed, .pinned, .pinned], laidTests := true, laidLooks := .later }
def FnExactParameterUptoCardSaid : Prop := Claim7.holds Tryd.pinned (.plain (OpenSpec.upto fnExactParameterSpec)) fnExactParameterUptoCard

/-- THE SECOND FORM's CARD OF 'laws.FnTwice'. -/
def fnTwiceUptoCard : Claim7 := { stood := { row := fnTwiceUptoRow, standIns := [], harness := (true, "efb63ada005dd307e424bddf13ac7c590a643d04dc6d978ab1dc9aa86337070c"), looks := true }, kinds := [], alts := [], laidByText := true, laidKinds := [.data, .data, .data, .data, .listed, .data, .sentinel, .sentinel, .sentinel, .sentinel, .sentinel, .sentinel, .pinned, .pinned], laidTests := true, laidLooks := .later }
def FnTwiceUptoCardSaid : Prop := Claim7.holds Tryd.pinned (.plain (OpenSpec.upto fnTwiceSpec)) fnTwiceUptoCard
end Rows
end Go.Proofs.YteohjnebbndcoaaDoor
