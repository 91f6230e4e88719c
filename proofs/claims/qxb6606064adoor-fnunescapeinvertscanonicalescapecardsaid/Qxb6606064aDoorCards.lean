/-
  DERIVED. GIVEN WITH THE SEED: THE CARDS: each row of Qxb6606064aDoorRows.lean that lists a variable, with what it lists TIED to the program's text (the seventh form; the later family's looks); each row that meets fmt, with fmt's text TOLD by the authors' own Lean function (tested against real Go, not proved from fmt's source: count such statements apart). THE CARD IS WHAT COUNTS. Prove the row's statement (the work); the ties are given (Qxb6606064aDoorTie.lean); close each card by the builder's one call (the guide's Derived/Test/ToyasCard.lean, 'card_holds'). Laid BY PROGRAM, IN A SANDBOX (cutbox-door.mjs). By AI agents, Wed Nov 11 2026. No macro, syntax, notation, axiom, sorry.
-/
import Derived.Test.Qxb6606064aDoorRows
import GoSem.ClaimSeven
namespace Go.Proofs.Qxb6606064aDoor
namespace Rows

/-- THE TIED CARD OF 'zzlaws_internal_jcs_b1.FnUnescapeInvertsCanonicalEscape'. -/
def fnUnescapeInvertsCanonicalEscapeCard : Claim7 := { stood := { row := fnUnescapeInvertsCanonicalEscapeRow, standIns := [], harness := (true, "c541de4afc72b18f14d73541ea2a782171b59c43fcf33ae2bd8c40b80761a1e6"), looks := true }, kinds := [], alts := [], laidByText := true, laidKinds := [.data, .data, .data, .sentinel, .sentinel], laidTests := true, laidLooks := .later }
def FnUnescapeInvertsCanonicalEscapeCardSaid : Prop := Claim7.holds Tryd.pinned (.plain (OpenSpec.ofChange fnUnescapeInvertsCanonicalEscapeSpec)) fnUnescapeInvertsCanonicalEscapeCard

/-- THE TIED CARD OF 'zzlaws_internal_jcs_b1.FnValueEndThenUnescapeReadsCanonicalStringBack'. -/
def fnValueEndThenUnescapeReadsCanonicalStringBackCard : Claim7 := { stood := { row := fnValueEndThenUnescapeReadsCanonicalStringBackRow, standIns := [], harness := (true, "c541de4afc72b18f14d73541ea2a782171b59c43fcf33ae2bd8c40b80761a1e6"), looks := true }, kinds := [], alts := [], laidByText := true, laidKinds := [.data, .data, .data, .sentinel, .sentinel], laidTests := true, laidLooks := .later }
def FnValueEndThenUnescapeReadsCanonicalStringBackCardSaid : Prop := Claim7.holds Tryd.pinned (.plain (OpenSpec.ofChange fnValueEndThenUnescapeReadsCanonicalStringBackSpec)) fnValueEndThenUnescapeReadsCanonicalStringBackCard
end Rows
end Go.Proofs.Qxb6606064aDoor
