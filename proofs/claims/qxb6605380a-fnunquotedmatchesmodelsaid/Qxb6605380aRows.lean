/-
  No cell of these rows narrows 'for every input' (looked for: loops, veiled, ifaces, maps, wideKeys, modest, calm, conditions, laid).
  DERIVED. THE GIVEN ROWS OF THIS SEAT. 4 by the template 'for every input the law returns true; each argument reads behind the call as it read before'; 0 by the template 'total and deterministic' (their statements: Qxb6605380aTotals.lean).
  GIVEN WITH THE SEED: the statements are not yours to turn. If you find one false, say at which input.
  Laid BY PROGRAM, IN A SANDBOX (cutbox-rows.mjs): the forced cells as the released guide's own fill.sh prints them over the translation f2aea0ca258aae30… (all of the seat's roots in one cut). By AI agents, Wed Nov 11 2026. No macro, syntax, notation, axiom, sorry.
-/
import Derived.Test.Qxb6605380aChecked
import GoSem.Claim
import GoSem.ClaimJoined
import GoSem.ClaimMapViews
import Derived.JoinedTies
import Derived.KernelRfl
namespace Go.Proofs.Qxb6605380a
/- THE CELL 'sum', in the pinned program and in every row, IS THE sha256 OF THE DUMP (.gsa) THAT Qxb6605380aProg.lean LOADS. Nothing in Lean hashes anything: it is a label: what it is worth is what the hold of that sum in a sandbox is worth. -/
noncomputable def Try.pinned : Pinned := { name := "qxb6605380a", sum := "f2aea0ca258aae30f27c13dd5597d5c688dc8614e5d23f4b50bb80588103e2d2", checked := Try.checked }
namespace Rows
def none {H : Type} : Left H := { results := [], args := [] }

/-- 'zzlaws_pkg_report_b1.FnCursorWordMatchesModel': WHATEVER THE INPUT: true; the input reads as it did. -/
def fnCursorWordMatchesModelSpec : ChangeSpec := { name := "fnCursorWordMatchesModel", fn := fun _ => fun
  | [d] => { results := [.lit (.bool true)], args := [d] }
  | _ => none }
def fnCursorWordMatchesModelRow : OpenClaim := { program := "qxb6605380a", sum := "f2aea0ca258aae30f27c13dd5597d5c688dc8614e5d23f4b50bb80588103e2d2", func := "example.com/gapscope/gapscope/zzlaws_pkg_report_b1.FnCursorWordMatchesModel", spec := "fnCursorWordMatchesModel", inPlace := ["internal/bytealg.IndexByteString"], apart := false }
def FnCursorWordMatchesModelSaid : Prop := fnCursorWordMatchesModelRow.holds Try.pinned (OpenSpec.ofChange fnCursorWordMatchesModelSpec)

/-- ITS FALSE NEIGHBOUR: 'it returns false'. Refute it at one input. -/
def fnCursorWordMatchesModelWrong : ChangeSpec := { name := "fnCursorWordMatchesModel", fn := fun _ => fun
  | [d] => { results := [.lit (.bool false)], args := [d] }
  | _ => none }
def FnCursorWordMatchesModelWrongFalsely : Prop := fnCursorWordMatchesModelRow.holds Try.pinned (OpenSpec.ofChange fnCursorWordMatchesModelWrong)

/-- 'zzlaws_pkg_report_b1.FnCursorWordSplitsLine': WHATEVER THE INPUT: true; the input reads as it did. -/
def fnCursorWordSplitsLineSpec : ChangeSpec := { name := "fnCursorWordSplitsLine", fn := fun _ => fun
  | [d] => { results := [.lit (.bool true)], args := [d] }
  | _ => none }
def fnCursorWordSplitsLineRow : OpenClaim := { program := "qxb6605380a", sum := "f2aea0ca258aae30f27c13dd5597d5c688dc8614e5d23f4b50bb80588103e2d2", func := "example.com/gapscope/gapscope/zzlaws_pkg_report_b1.FnCursorWordSplitsLine", spec := "fnCursorWordSplitsLine", inPlace := ["internal/bytealg.IndexByteString"], apart := false }
def FnCursorWordSplitsLineSaid : Prop := fnCursorWordSplitsLineRow.holds Try.pinned (OpenSpec.ofChange fnCursorWordSplitsLineSpec)

/-- ITS FALSE NEIGHBOUR: 'it returns false'. Refute it at one input. -/
def fnCursorWordSplitsLineWrong : ChangeSpec := { name := "fnCursorWordSplitsLine", fn := fun _ => fun
  | [d] => { results := [.lit (.bool false)], args := [d] }
  | _ => none }
def FnCursorWordSplitsLineWrongFalsely : Prop := fnCursorWordSplitsLineRow.holds Try.pinned (OpenSpec.ofChange fnCursorWordSplitsLineWrong)

/-- 'zzlaws_pkg_report_b1.FnUnquotedMatchesModel': WHATEVER THE INPUT: true; the input reads as it did. -/
def fnUnquotedMatchesModelSpec : ChangeSpec := { name := "fnUnquotedMatchesModel", fn := fun _ => fun
  | [d] => { results := [.lit (.bool true)], args := [d] }
  | _ => none }
def fnUnquotedMatchesModelRow : OpenClaim := { program := "qxb6605380a", sum := "f2aea0ca258aae30f27c13dd5597d5c688dc8614e5d23f4b50bb80588103e2d2", func := "example.com/gapscope/gapscope/zzlaws_pkg_report_b1.FnUnquotedMatchesModel", spec := "fnUnquotedMatchesModel", apart := false }
def FnUnquotedMatchesModelSaid : Prop := fnUnquotedMatchesModelRow.holds Try.pinned (OpenSpec.ofChange fnUnquotedMatchesModelSpec)

/-- ITS FALSE NEIGHBOUR: 'it returns false'. Refute it at one input. -/
def fnUnquotedMatchesModelWrong : ChangeSpec := { name := "fnUnquotedMatchesModel", fn := fun _ => fun
  | [d] => { results := [.lit (.bool false)], args := [d] }
  | _ => none }
def FnUnquotedMatchesModelWrongFalsely : Prop := fnUnquotedMatchesModelRow.holds Try.pinned (OpenSpec.ofChange fnUnquotedMatchesModelWrong)

/-- 'zzlaws_pkg_report_b1.FnUnquotedQuoteRoundTrip': WHATEVER THE INPUT: true; the input reads as it did. -/
def fnUnquotedQuoteRoundTripSpec : ChangeSpec := { name := "fnUnquotedQuoteRoundTrip", fn := fun _ => fun
  | [d1, d2, d3, d4, d5] => { results := [.lit (.bool true)], args := [d1, d2, d3, d4, d5] }
  | _ => none }
def fnUnquotedQuoteRoundTripRow : OpenClaim := { program := "qxb6605380a", sum := "f2aea0ca258aae30f27c13dd5597d5c688dc8614e5d23f4b50bb80588103e2d2", func := "example.com/gapscope/gapscope/zzlaws_pkg_report_b1.FnUnquotedQuoteRoundTrip", spec := "fnUnquotedQuoteRoundTrip", apart := false }
def FnUnquotedQuoteRoundTripSaid : Prop := fnUnquotedQuoteRoundTripRow.holds Try.pinned (OpenSpec.ofChange fnUnquotedQuoteRoundTripSpec)

/-- ITS FALSE NEIGHBOUR: 'it returns false'. Refute it at one input. -/
def fnUnquotedQuoteRoundTripWrong : ChangeSpec := { name := "fnUnquotedQuoteRoundTrip", fn := fun _ => fun
  | [d1, d2, d3, d4, d5] => { results := [.lit (.bool false)], args := [d1, d2, d3, d4, d5] }
  | _ => none }
def FnUnquotedQuoteRoundTripWrongFalsely : Prop := fnUnquotedQuoteRoundTripRow.holds Try.pinned (OpenSpec.ofChange fnUnquotedQuoteRoundTripWrong)

end Rows
end Go.Proofs.Qxb6605380a
