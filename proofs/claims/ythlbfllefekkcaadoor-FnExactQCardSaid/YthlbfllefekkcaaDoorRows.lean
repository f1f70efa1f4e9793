/-
  NARROWER THAN 'FOR EVERY INPUT', by the rows' own cells (each row's printed sentence says how): FnExactQ: ifaces, laid · FnSmall: ifaces, laid.
  DERIVED. THE GIVEN ROWS OF THIS SEAT. 2 by the template 'for every input the law returns true; each argument reads behind the call as it read before'; 0 by the template 'total and deterministic' (their statements: YthlbfllefekkcaaDoorTotals.lean).
  GIVEN WITH THE SEED: the statements are not yours to turn. If you find one false, say at which input.
  Laid BY PROGRAM, IN A SANDBOX (cutbox-rows.mjs): the forced cells as the released guide's own fill.sh prints them over the translation d615777f91d374e3… (all of the seat's roots in one cut). By AI agents, Wed Nov 11 2026. No macro, syntax, notation, axiom, sorry.
-/
import Derived.Test.YthlbfllefekkcaaDoorChecked
import GoSem.Claim
import GoSem.ClaimJoined
import GoSem.ClaimMapViews
import Derived.JoinedTies
import Derived.KernelRfl
namespace Go.Proofs.YthlbfllefekkcaaDoor
/- THE CELL 'sum', in the pinned program and in every row, IS THE sha256 OF THE DUMP (.gsa) THAT YthlbfllefekkcaaDoorProg.lean LOADS. Nothing in Lean hashes anything: it is a label: what it is worth is what the hold of that sum in a sandbox is worth. -/
noncomputable def Tryd.pinned : Pinned := { name := "ythlbfllefekkcaadoor", sum := "d615777f91d374e3c21481ef74147ff3a53b0e5bfbd6fa297ed2e02528438413", checked := Tryd.checked }
namespace Rows
def none {H : Type} : Left H := { results := [], args := [] }

/- WHAT THE LISTED PACKAGE-LEVEL VARIABLES READ AS WHEN THE CALL BEGINS. Each datum BY PROGRAM (the guide's laid-datum.mjs) off the statement by which the dump's own 'gosem.cut.vars' lays the variable. In a bare row this is a premise. The card (YthlbfllefekkcaaDoorCards.lean) ties it to the program's text. -/
def laid_loop_example_pub_mediatypes_pub_gomime_errInvalidWord {H : Type} : DataW H := .iface "*errors.errorString" (.ptr (.agg [.lit (.string [109, 105, 109, 101, 58, 32, 105, 110, 118, 97, 108, 105, 100, 32, 82, 70, 67, 32, 50, 48, 52, 55, 32, 101, 110, 99, 111, 100, 101, 100, 45, 119, 111, 114, 100])]))

/-- 'laws.FnExactQ': WHATEVER THE INPUT: true; the input reads as it did. -/
def fnExactQSpec : ChangeSpec := { name := "fnExactQ", vars := ["loop.example/pub-mediatypes/pub/gomime.errInvalidWord"], fn := fun _ => fun
  | [d, g1] => { results := [.lit (.bool true)], args := [d], vars := [g1] }
  | _ => none }
def fnExactQRow : OpenClaim := { program := "ythlbfllefekkcaadoor", sum := "d615777f91d374e3c21481ef74147ff3a53b0e5bfbd6fa297ed2e02528438413", func := "loop.example/pub-mediatypes/laws.FnExactQ", spec := "fnExactQ", named := ["loop.example/pub-mediatypes/pub/gomime.errInvalidWord"], ifaces := true, apart := false, laid := [("loop.example/pub-mediatypes/pub/gomime.errInvalidWord", laid_loop_example_pub_mediatypes_pub_gomime_errInvalidWord)] }
def FnExactQSaid : Prop := fnExactQRow.holds Tryd.pinned (OpenSpec.ofChange fnExactQSpec)

/-- ITS FALSE NEIGHBOUR: 'it returns false'. Refute it at one input. -/
def fnExactQWrong : ChangeSpec := { name := "fnExactQ", vars := ["loop.example/pub-mediatypes/pub/gomime.errInvalidWord"], fn := fun _ => fun
  | [d, g1] => { results := [.lit (.bool false)], args := [d], vars := [g1] }
  | _ => none }
def FnExactQWrongFalsely : Prop := fnExactQRow.holds Tryd.pinned (OpenSpec.ofChange fnExactQWrong)

/-- 'laws.FnSmall': WHATEVER THE INPUT: true; the input reads as it did. -/
def fnSmallSpec : ChangeSpec := { name := "fnSmall", vars := ["loop.example/pub-mediatypes/pub/gomime.errInvalidWord"], fn := fun _ => fun
  | [d, g1] => { results := [.lit (.bool true)], args := [d], vars := [g1] }
  | _ => none }
def fnSmallRow : OpenClaim := { program := "ythlbfllefekkcaadoor", sum := "d615777f91d374e3c21481ef74147ff3a53b0e5bfbd6fa297ed2e02528438413", func := "loop.example/pub-mediatypes/laws.FnSmall", spec := "fnSmall", named := ["loop.example/pub-mediatypes/pub/gomime.errInvalidWord"], ifaces := true, apart := false, laid := [("loop.example/pub-mediatypes/pub/gomime.errInvalidWord", laid_loop_example_pub_mediatypes_pub_gomime_errInvalidWord)] }
def FnSmallSaid : Prop := fnSmallRow.holds Tryd.pinned (OpenSpec.ofChange fnSmallSpec)

/-- ITS FALSE NEIGHBOUR: 'it returns false'. Refute it at one input. -/
def fnSmallWrong : ChangeSpec := { name := "fnSmall", vars := ["loop.example/pub-mediatypes/pub/gomime.errInvalidWord"], fn := fun _ => fun
  | [d, g1] => { results := [.lit (.bool false)], args := [d], vars := [g1] }
  | _ => none }
def FnSmallWrongFalsely : Prop := fnSmallRow.holds Tryd.pinned (OpenSpec.ofChange fnSmallWrong)

/- THE SECOND FORM. 'bulk': how many values and letters a reading holds, each counted each time it is reached (what is shared counts as often as it is met; a slice's spare places count too). A statement '..UptoSaid' is the law's where the arguments, and the package variables that the reading takes, are together of bulk at most 1048576: NARROWER than '..Said'. Prove '..Said' where nothing that the law and all that it calls make is longer than what came in: it says more and counts as full. Else prove '..UptoSaid'. A law counts once. -/
mutual
def uptoBulk {H : Type} : DataW H → Nat
  | .lit (.string bytes) => bytes.length + 1
  | .lit _ => 1
  | .nil => 1
  | .ptr d => uptoBulk d + 1
  | .slice elems spare => uptoBulkAll elems + uptoBulkAll spare + 1
  | .agg parts => uptoBulkAll parts + 1
  | .iface _ d => uptoBulk d + 1
  | .map entries => uptoBulkEntries entries + 1
  | .held _ => 1
def uptoBulkAll {H : Type} : List (DataW H) → Nat
  | [] => 0
  | d :: r => uptoBulk d + uptoBulkAll r
def uptoBulkEntries {H : Type} : List (Lit × DataW H) → Nat
  | [] => 0
  | x :: r => uptoBulkEntry x + uptoBulkEntries r
def uptoBulkEntry {H : Type} : Lit × DataW H → Nat
  | (.string bytes, d) => bytes.length + uptoBulk d + 1
  | (_, d) => uptoBulk d + 1
 end
def uptoSmall : (H : Type) → List (DataW H) → Bool := fun _ ds => decide (uptoBulkAll ds ≤ 1048576)
def OpenSpec.upto (s : _root_.Go.ChangeSpec) : _root_.Go.OpenSpec := { _root_.Go.OpenSpec.ofChange s with cond := some uptoSmall }

/-- 'laws.FnExactQ', WHERE WHAT IT READS IS OF BULK AT MOST 1048576: true; the input reads as it did. -/
def fnExactQUptoRow : OpenClaim := { program := "ythlbfllefekkcaadoor", sum := "d615777f91d374e3c21481ef74147ff3a53b0e5bfbd6fa297ed2e02528438413", func := "loop.example/pub-mediatypes/laws.FnExactQ", spec := "fnExactQ", named := ["loop.example/pub-mediatypes/pub/gomime.errInvalidWord"], ifaces := true, apart := false, laid := [("loop.example/pub-mediatypes/pub/gomime.errInvalidWord", laid_loop_example_pub_mediatypes_pub_gomime_errInvalidWord)], narrowed := true }
def FnExactQUptoSaid : Prop := fnExactQUptoRow.holds Tryd.pinned (OpenSpec.upto fnExactQSpec)

/-- 'laws.FnSmall', WHERE WHAT IT READS IS OF BULK AT MOST 1048576: true; the input reads as it did. -/
def fnSmallUptoRow : OpenClaim := { program := "ythlbfllefekkcaadoor", sum := "d615777f91d374e3c21481ef74147ff3a53b0e5bfbd6fa297ed2e02528438413", func := "loop.example/pub-mediatypes/laws.FnSmall", spec := "fnSmall", named := ["loop.example/pub-mediatypes/pub/gomime.errInvalidWord"], ifaces := true, apart := false, laid := [("loop.example/pub-mediatypes/pub/gomime.errInvalidWord", laid_loop_example_pub_mediatypes_pub_gomime_errInvalidWord)], narrowed := true }
def FnSmallUptoSaid : Prop := fnSmallUptoRow.holds Tryd.pinned (OpenSpec.upto fnSmallSpec)

end Rows
end Go.Proofs.YthlbfllefekkcaaDoor
