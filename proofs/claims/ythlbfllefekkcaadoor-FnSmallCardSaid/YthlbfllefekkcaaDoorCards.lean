/-
  DERIVED. GIVEN WITH THE SEED: THE CARDS: each row of YthlbfllefekkcaaDoorRows.lean that lists a variable, with what it lists TIED to the program's text (the seventh form; the later family's looks); each row that meets fmt, with fmt's text TOLD by the authors' own Lean function (tested against real Go, not proved from fmt's source: count such statements apart). THE CARD IS WHAT COUNTS. Prove the row's statement (the work); the ties are given (YthlbfllefekkcaaDoorTie.lean); close each card by the builder's one call (the guide's Derived/Test/ToyasCard.lean, 'card_holds'). Laid BY PROGRAM, IN A SANDBOX (cutbox-door.mjs). By AI agents, Wed Nov 11 2026. No macro, syntax, notation, axiom, sorry.
-/
import Derived.Test.YthlbfllefekkcaaDoorRows
import GoSem.ClaimSeven
namespace Go.Proofs.YthlbfllefekkcaaDoor
namespace Rows

/-- THE TIED CARD OF 'laws.FnExactQ'. -/
def fnExactQCard : Claim7 := { stood := { row := fnExactQRow, standIns := [], harness := (true, "244833236a54081856c61a8b79a4ceb412c697197655333ac31925f4c9412f3b"), looks := false }, kinds := [], alts := [], laidByText := true, laidKinds := [.sentinel], laidTests := true, laidLooks := .later }
def FnExactQCardSaid : Prop := Claim7.holds Tryd.pinned (.plain (OpenSpec.ofChange fnExactQSpec)) fnExactQCard

/-- THE TIED CARD OF 'laws.FnSmall'. -/
def fnSmallCard : Claim7 := { stood := { row := fnSmallRow, standIns := [], harness := (true, "244833236a54081856c61a8b79a4ceb412c697197655333ac31925f4c9412f3b"), looks := false }, kinds := [], alts := [], laidByText := true, laidKinds := [.sentinel], laidTests := true, laidLooks := .later }
def FnSmallCardSaid : Prop := Claim7.holds Tryd.pinned (.plain (OpenSpec.ofChange fnSmallSpec)) fnSmallCard

/-- THE SECOND FORM's CARD OF 'laws.FnExactQ'. -/
def fnExactQUptoCard : Claim7 := { stood := { row := fnExactQUptoRow, standIns := [], harness := (true, "244833236a54081856c61a8b79a4ceb412c697197655333ac31925f4c9412f3b"), looks := false }, kinds := [], alts := [], laidByText := true, laidKinds := [.sentinel], laidTests := true, laidLooks := .later }
def FnExactQUptoCardSaid : Prop := Claim7.holds Tryd.pinned (.plain (OpenSpec.upto fnExactQSpec)) fnExactQUptoCard

/-- THE SECOND FORM's CARD OF 'laws.FnSmall'. -/
def fnSmallUptoCard : Claim7 := { stood := { row := fnSmallUptoRow, standIns := [], harness := (true, "244833236a54081856c61a8b79a4ceb412c697197655333ac31925f4c9412f3b"), looks := false }, kinds := [], alts := [], laidByText := true, laidKinds := [.sentinel], laidTests := true, laidLooks := .later }
def FnSmallUptoCardSaid : Prop := Claim7.holds Tryd.pinned (.plain (OpenSpec.upto fnSmallSpec)) fnSmallUptoCard
end Rows
end Go.Proofs.YthlbfllefekkcaaDoor
