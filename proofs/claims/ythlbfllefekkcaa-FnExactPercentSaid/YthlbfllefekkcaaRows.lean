/-
  No cell of these rows narrows 'for every input' (looked for: loops, veiled, ifaces, maps, wideKeys, modest, calm, conditions, laid).
  DERIVED. THE GIVEN ROWS OF THIS SEAT. 8 by the template 'for every input the law returns true; each argument reads behind the call as it read before'; 0 by the template 'total and deterministic' (their statements: YthlbfllefekkcaaTotals.lean).
  GIVEN WITH THE SEED: the statements are not yours to turn. If you find one false, say at which input.
  Laid BY PROGRAM, IN A SANDBOX (cutbox-rows.mjs): the forced cells as the released guide's own fill.sh prints them over the translation 93e5beb5a18a123b… (all of the seat's roots in one cut). By AI agents, Wed Nov 11 2026. No macro, syntax, notation, axiom, sorry.
-/
import Derived.Test.YthlbfllefekkcaaChecked
import GoSem.Claim
import GoSem.ClaimJoined
import GoSem.ClaimMapViews
import Derived.JoinedTies
import Derived.KernelRfl
namespace Go.Proofs.Ythlbfllefekkcaa
/- THE CELL 'sum', in the pinned program and in every row, IS THE sha256 OF THE DUMP (.gsa) THAT YthlbfllefekkcaaProg.lean LOADS. Nothing in Lean hashes anything: it is a label: what it is worth is what the hold of that sum in a sandbox is worth. -/
noncomputable def Try.pinned : Pinned := { name := "ythlbfllefekkcaa", sum := "93e5beb5a18a123bd5bd9297da1788dfcc476e840c819a27aadd3b88f9adaa5a", checked := Try.checked }
namespace Rows
def none {H : Type} : Left H := { results := [], args := [] }

/-- 'laws.FnExactNeeds': WHATEVER THE INPUT: true; the input reads as it did. -/
def fnExactNeedsSpec : ChangeSpec := { name := "fnExactNeeds", fn := fun _ => fun
  | [d] => { results := [.lit (.bool true)], args := [d] }
  | _ => none }
def fnExactNeedsRow : OpenClaim := { program := "ythlbfllefekkcaa", sum := "93e5beb5a18a123bd5bd9297da1788dfcc476e840c819a27aadd3b88f9adaa5a", func := "loop.example/pub-mediatypes/laws.FnExactNeeds", spec := "fnExactNeeds", apart := false }
def FnExactNeedsSaid : Prop := fnExactNeedsRow.holds Try.pinned (OpenSpec.ofChange fnExactNeedsSpec)

/-- ITS FALSE NEIGHBOUR: 'it returns false'. Refute it at one input. -/
def fnExactNeedsWrong : ChangeSpec := { name := "fnExactNeeds", fn := fun _ => fun
  | [d] => { results := [.lit (.bool false)], args := [d] }
  | _ => none }
def FnExactNeedsWrongFalsely : Prop := fnExactNeedsRow.holds Try.pinned (OpenSpec.ofChange fnExactNeedsWrong)

/-- 'laws.FnExactSpecial': WHATEVER THE INPUT: true; the input reads as it did. -/
def fnExactSpecialSpec : ChangeSpec := { name := "fnExactSpecial", fn := fun _ => fun
  | [d] => { results := [.lit (.bool true)], args := [d] }
  | _ => none }
def fnExactSpecialRow : OpenClaim := { program := "ythlbfllefekkcaa", sum := "93e5beb5a18a123bd5bd9297da1788dfcc476e840c819a27aadd3b88f9adaa5a", func := "loop.example/pub-mediatypes/laws.FnExactSpecial", spec := "fnExactSpecial", apart := false }
def FnExactSpecialSaid : Prop := fnExactSpecialRow.holds Try.pinned (OpenSpec.ofChange fnExactSpecialSpec)

/-- ITS FALSE NEIGHBOUR: 'it returns false'. Refute it at one input. -/
def fnExactSpecialWrong : ChangeSpec := { name := "fnExactSpecial", fn := fun _ => fun
  | [d] => { results := [.lit (.bool false)], args := [d] }
  | _ => none }
def FnExactSpecialWrongFalsely : Prop := fnExactSpecialRow.holds Try.pinned (OpenSpec.ofChange fnExactSpecialWrong)

/-- 'laws.FnExactTokenByte': WHATEVER THE INPUT: true; the input reads as it did. -/
def fnExactTokenByteSpec : ChangeSpec := { name := "fnExactTokenByte", fn := fun _ => fun
  | [d] => { results := [.lit (.bool true)], args := [d] }
  | _ => none }
def fnExactTokenByteRow : OpenClaim := { program := "ythlbfllefekkcaa", sum := "93e5beb5a18a123bd5bd9297da1788dfcc476e840c819a27aadd3b88f9adaa5a", func := "loop.example/pub-mediatypes/laws.FnExactTokenByte", spec := "fnExactTokenByte", apart := false }
def FnExactTokenByteSaid : Prop := fnExactTokenByteRow.holds Try.pinned (OpenSpec.ofChange fnExactTokenByteSpec)

/-- ITS FALSE NEIGHBOUR: 'it returns false'. Refute it at one input. -/
def fnExactTokenByteWrong : ChangeSpec := { name := "fnExactTokenByte", fn := fun _ => fun
  | [d] => { results := [.lit (.bool false)], args := [d] }
  | _ => none }
def FnExactTokenByteWrongFalsely : Prop := fnExactTokenByteRow.holds Try.pinned (OpenSpec.ofChange fnExactTokenByteWrong)

/-- 'laws.FnExactToken': WHATEVER THE INPUT: true; the input reads as it did. -/
def fnExactTokenSpec : ChangeSpec := { name := "fnExactToken", fn := fun _ => fun
  | [d] => { results := [.lit (.bool true)], args := [d] }
  | _ => none }
def fnExactTokenRow : OpenClaim := { program := "ythlbfllefekkcaa", sum := "93e5beb5a18a123bd5bd9297da1788dfcc476e840c819a27aadd3b88f9adaa5a", func := "loop.example/pub-mediatypes/laws.FnExactToken", spec := "fnExactToken", apart := false }
def FnExactTokenSaid : Prop := fnExactTokenRow.holds Try.pinned (OpenSpec.ofChange fnExactTokenSpec)

/-- ITS FALSE NEIGHBOUR: 'it returns false'. Refute it at one input. -/
def fnExactTokenWrong : ChangeSpec := { name := "fnExactToken", fn := fun _ => fun
  | [d] => { results := [.lit (.bool false)], args := [d] }
  | _ => none }
def FnExactTokenWrongFalsely : Prop := fnExactTokenRow.holds Try.pinned (OpenSpec.ofChange fnExactTokenWrong)

/-- 'laws.FnExactIsToken': WHATEVER THE INPUT: true; the input reads as it did. -/
def fnExactIsTokenSpec : ChangeSpec := { name := "fnExactIsToken", fn := fun _ => fun
  | [d] => { results := [.lit (.bool true)], args := [d] }
  | _ => none }
def fnExactIsTokenRow : OpenClaim := { program := "ythlbfllefekkcaa", sum := "93e5beb5a18a123bd5bd9297da1788dfcc476e840c819a27aadd3b88f9adaa5a", func := "loop.example/pub-mediatypes/laws.FnExactIsToken", spec := "fnExactIsToken", apart := false }
def FnExactIsTokenSaid : Prop := fnExactIsTokenRow.holds Try.pinned (OpenSpec.ofChange fnExactIsTokenSpec)

/-- ITS FALSE NEIGHBOUR: 'it returns false'. Refute it at one input. -/
def fnExactIsTokenWrong : ChangeSpec := { name := "fnExactIsToken", fn := fun _ => fun
  | [d] => { results := [.lit (.bool false)], args := [d] }
  | _ => none }
def FnExactIsTokenWrongFalsely : Prop := fnExactIsTokenRow.holds Try.pinned (OpenSpec.ofChange fnExactIsTokenWrong)

/-- 'laws.FnExactPercent': WHATEVER THE INPUT: true; the input reads as it did. -/
def fnExactPercentSpec : ChangeSpec := { name := "fnExactPercent", fn := fun _ => fun
  | [d] => { results := [.lit (.bool true)], args := [d] }
  | _ => none }
def fnExactPercentRow : OpenClaim := { program := "ythlbfllefekkcaa", sum := "93e5beb5a18a123bd5bd9297da1788dfcc476e840c819a27aadd3b88f9adaa5a", func := "loop.example/pub-mediatypes/laws.FnExactPercent", spec := "fnExactPercent", apart := false }
def FnExactPercentSaid : Prop := fnExactPercentRow.holds Try.pinned (OpenSpec.ofChange fnExactPercentSpec)

/-- ITS FALSE NEIGHBOUR: 'it returns false'. Refute it at one input. -/
def fnExactPercentWrong : ChangeSpec := { name := "fnExactPercent", fn := fun _ => fun
  | [d] => { results := [.lit (.bool false)], args := [d] }
  | _ => none }
def FnExactPercentWrongFalsely : Prop := fnExactPercentRow.holds Try.pinned (OpenSpec.ofChange fnExactPercentWrong)

/-- 'laws.FnExactValueQuoted': WHATEVER THE INPUT: true; the input reads as it did. -/
def fnExactValueQuotedSpec : ChangeSpec := { name := "fnExactValueQuoted", fn := fun _ => fun
  | [d1, d2] => { results := [.lit (.bool true)], args := [d1, d2] }
  | _ => none }
def fnExactValueQuotedRow : OpenClaim := { program := "ythlbfllefekkcaa", sum := "93e5beb5a18a123bd5bd9297da1788dfcc476e840c819a27aadd3b88f9adaa5a", func := "loop.example/pub-mediatypes/laws.FnExactValueQuoted", spec := "fnExactValueQuoted", inPlace := ["internal/abi.NoEscape"], apart := false }
def FnExactValueQuotedSaid : Prop := fnExactValueQuotedRow.holds Try.pinned (OpenSpec.ofChange fnExactValueQuotedSpec)

/-- ITS FALSE NEIGHBOUR: 'it returns false'. Refute it at one input. -/
def fnExactValueQuotedWrong : ChangeSpec := { name := "fnExactValueQuoted", fn := fun _ => fun
  | [d1, d2] => { results := [.lit (.bool false)], args := [d1, d2] }
  | _ => none }
def FnExactValueQuotedWrongFalsely : Prop := fnExactValueQuotedRow.holds Try.pinned (OpenSpec.ofChange fnExactValueQuotedWrong)

/-- 'laws.FnExactValueToken': WHATEVER THE INPUT: true; the input reads as it did. -/
def fnExactValueTokenSpec : ChangeSpec := { name := "fnExactValueToken", fn := fun _ => fun
  | [d1, d2] => { results := [.lit (.bool true)], args := [d1, d2] }
  | _ => none }
def fnExactValueTokenRow : OpenClaim := { program := "ythlbfllefekkcaa", sum := "93e5beb5a18a123bd5bd9297da1788dfcc476e840c819a27aadd3b88f9adaa5a", func := "loop.example/pub-mediatypes/laws.FnExactValueToken", spec := "fnExactValueToken", inPlace := ["internal/abi.NoEscape"], apart := false }
def FnExactValueTokenSaid : Prop := fnExactValueTokenRow.holds Try.pinned (OpenSpec.ofChange fnExactValueTokenSpec)

/-- ITS FALSE NEIGHBOUR: 'it returns false'. Refute it at one input. -/
def fnExactValueTokenWrong : ChangeSpec := { name := "fnExactValueToken", fn := fun _ => fun
  | [d1, d2] => { results := [.lit (.bool false)], args := [d1, d2] }
  | _ => none }
def FnExactValueTokenWrongFalsely : Prop := fnExactValueTokenRow.holds Try.pinned (OpenSpec.ofChange fnExactValueTokenWrong)

/- THE SECOND FORM. 'bulk': how many values and letters a reading holds, each counted each time it is reached (what is shared counts as often as it is met; a slice's spare places count too). A statement '..UptoSaid' is the law's where the arguments, and the package variables that the reading takes, are together of bulk at most 1048576: NARROWER than '..Said'. Prove '..Said' where nothing that the law and all that it calls make is longer than what came in: it says more and counts as full. Else prove '..UptoSaid'. A law counts once. -/
mutual
def uptoBulk {H : Type} : DataW H → Nat
  | .lit (.string bytes) => bytes.length + 1
  | .lit _ => 1
  | .nil => 1
  | .ptr d => uptoBulk d + 1
  | .slice elems spare => uptoBulkAll elems + uptoBulkAll spare + 1
  | .agg parts => uptoBulkAll parts + 1
  | .iface _ d => uptoBulk d + 1
  | .map entries => uptoBulkEntries entries + 1
  | .held _ => 1
def uptoBulkAll {H : Type} : List (DataW H) → Nat
  | [] => 0
  | d :: r => uptoBulk d + uptoBulkAll r
def uptoBulkEntries {H : Type} : List (Lit × DataW H) → Nat
  | [] => 0
  | x :: r => uptoBulkEntry x + uptoBulkEntries r
def uptoBulkEntry {H : Type} : Lit × DataW H → Nat
  | (.string bytes, d) => bytes.length + uptoBulk d + 1
  | (_, d) => uptoBulk d + 1
 end
def uptoSmall : (H : Type) → List (DataW H) → Bool := fun _ ds => decide (uptoBulkAll ds ≤ 1048576)
def OpenSpec.upto (s : _root_.Go.ChangeSpec) : _root_.Go.OpenSpec := { _root_.Go.OpenSpec.ofChange s with cond := some uptoSmall }

/-- 'laws.FnExactNeeds', WHERE WHAT IT READS IS OF BULK AT MOST 1048576: true; the input reads as it did. -/
def fnExactNeedsUptoRow : OpenClaim := { program := "ythlbfllefekkcaa", sum := "93e5beb5a18a123bd5bd9297da1788dfcc476e840c819a27aadd3b88f9adaa5a", func := "loop.example/pub-mediatypes/laws.FnExactNeeds", spec := "fnExactNeeds", apart := false, narrowed := true }
def FnExactNeedsUptoSaid : Prop := fnExactNeedsUptoRow.holds Try.pinned (OpenSpec.upto fnExactNeedsSpec)

/-- 'laws.FnExactSpecial', WHERE WHAT IT READS IS OF BULK AT MOST 1048576: true; the input reads as it did. -/
def fnExactSpecialUptoRow : OpenClaim := { program := "ythlbfllefekkcaa", sum := "93e5beb5a18a123bd5bd9297da1788dfcc476e840c819a27aadd3b88f9adaa5a", func := "loop.example/pub-mediatypes/laws.FnExactSpecial", spec := "fnExactSpecial", apart := false, narrowed := true }
def FnExactSpecialUptoSaid : Prop := fnExactSpecialUptoRow.holds Try.pinned (OpenSpec.upto fnExactSpecialSpec)

/-- 'laws.FnExactTokenByte', WHERE WHAT IT READS IS OF BULK AT MOST 1048576: true; the input reads as it did. -/
def fnExactTokenByteUptoRow : OpenClaim := { program := "ythlbfllefekkcaa", sum := "93e5beb5a18a123bd5bd9297da1788dfcc476e840c819a27aadd3b88f9adaa5a", func := "loop.example/pub-mediatypes/laws.FnExactTokenByte", spec := "fnExactTokenByte", apart := false, narrowed := true }
def FnExactTokenByteUptoSaid : Prop := fnExactTokenByteUptoRow.holds Try.pinned (OpenSpec.upto fnExactTokenByteSpec)

/-- 'laws.FnExactToken', WHERE WHAT IT READS IS OF BULK AT MOST 1048576: true; the input reads as it did. -/
def fnExactTokenUptoRow : OpenClaim := { program := "ythlbfllefekkcaa", sum := "93e5beb5a18a123bd5bd9297da1788dfcc476e840c819a27aadd3b88f9adaa5a", func := "loop.example/pub-mediatypes/laws.FnExactToken", spec := "fnExactToken", apart := false, narrowed := true }
def FnExactTokenUptoSaid : Prop := fnExactTokenUptoRow.holds Try.pinned (OpenSpec.upto fnExactTokenSpec)

/-- 'laws.FnExactIsToken', WHERE WHAT IT READS IS OF BULK AT MOST 1048576: true; the input reads as it did. -/
def fnExactIsTokenUptoRow : OpenClaim := { program := "ythlbfllefekkcaa", sum := "93e5beb5a18a123bd5bd9297da1788dfcc476e840c819a27aadd3b88f9adaa5a", func := "loop.example/pub-mediatypes/laws.FnExactIsToken", spec := "fnExactIsToken", apart := false, narrowed := true }
def FnExactIsTokenUptoSaid : Prop := fnExactIsTokenUptoRow.holds Try.pinned (OpenSpec.upto fnExactIsTokenSpec)

/-- 'laws.FnExactPercent', WHERE WHAT IT READS IS OF BULK AT MOST 1048576: true; the input reads as it did. -/
def fnExactPercentUptoRow : OpenClaim := { program := "ythlbfllefekkcaa", sum := "93e5beb5a18a123bd5bd9297da1788dfcc476e840c819a27aadd3b88f9adaa5a", func := "loop.example/pub-mediatypes/laws.FnExactPercent", spec := "fnExactPercent", apart := false, narrowed := true }
def FnExactPercentUptoSaid : Prop := fnExactPercentUptoRow.holds Try.pinned (OpenSpec.upto fnExactPercentSpec)

/-- 'laws.FnExactValueQuoted', WHERE WHAT IT READS IS OF BULK AT MOST 1048576: true; the input reads as it did. -/
def fnExactValueQuotedUptoRow : OpenClaim := { program := "ythlbfllefekkcaa", sum := "93e5beb5a18a123bd5bd9297da1788dfcc476e840c819a27aadd3b88f9adaa5a", func := "loop.example/pub-mediatypes/laws.FnExactValueQuoted", spec := "fnExactValueQuoted", inPlace := ["internal/abi.NoEscape"], apart := false, narrowed := true }
def FnExactValueQuotedUptoSaid : Prop := fnExactValueQuotedUptoRow.holds Try.pinned (OpenSpec.upto fnExactValueQuotedSpec)

/-- 'laws.FnExactValueToken', WHERE WHAT IT READS IS OF BULK AT MOST 1048576: true; the input reads as it did. -/
def fnExactValueTokenUptoRow : OpenClaim := { program := "ythlbfllefekkcaa", sum := "93e5beb5a18a123bd5bd9297da1788dfcc476e840c819a27aadd3b88f9adaa5a", func := "loop.example/pub-mediatypes/laws.FnExactValueToken", spec := "fnExactValueToken", inPlace := ["internal/abi.NoEscape"], apart := false, narrowed := true }
def FnExactValueTokenUptoSaid : Prop := fnExactValueTokenUptoRow.holds Try.pinned (OpenSpec.upto fnExactValueTokenSpec)

end Rows
end Go.Proofs.Ythlbfllefekkcaa
