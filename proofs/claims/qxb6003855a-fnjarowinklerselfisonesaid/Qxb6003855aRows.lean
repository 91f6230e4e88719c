/-
  No cell of these rows narrows 'for every input' (looked for: loops, veiled, ifaces, maps, wideKeys, modest, calm, conditions, laid).
  DERIVED. THE GIVEN ROWS OF THIS SEAT. 4 by the template 'for every input the law returns true; each argument reads behind the call as it read before'; 0 by the template 'total and deterministic' (their statements: Qxb6003855aTotals.lean).
  GIVEN WITH THE SEED: the statements are not yours to turn. If you find one false, say at which input.
  Laid BY PROGRAM, IN A SANDBOX (cutbox-rows.mjs): the forced cells as the released guide's own fill.sh prints them over the translation 608e2ad66eccf50a… (all of the seat's roots in one cut). By AI agents, Wed Nov 11 2026. No macro, syntax, notation, axiom, sorry.
-/
import Derived.Test.Qxb6003855aChecked
import GoSem.Claim
import GoSem.ClaimJoined
import GoSem.ClaimMapViews
import Derived.JoinedTies
import Derived.KernelRfl
namespace Go.Proofs.Qxb6003855a
/- THE CELL 'sum', in the pinned program and in every row, IS THE sha256 OF THE DUMP (.gsa) THAT Qxb6003855aProg.lean LOADS. Nothing in Lean hashes anything: it is a label: what it is worth is what the hold of that sum in a sandbox is worth. -/
noncomputable def Try.pinned : Pinned := { name := "qxb6003855a", sum := "608e2ad66eccf50aba5c3746d78fb47c6c28267dd7c1f79d1c81dcfff25383a1", checked := Try.checked }
namespace Rows
def none {H : Type} : Left H := { results := [], args := [] }

/-- 'zzlaws_internal_match_b1.FnMatchLongAgreesWithMatchShort': WHATEVER THE INPUT: true; the input reads as it did. -/
def fnMatchLongAgreesWithMatchShortSpec : ChangeSpec := { name := "fnMatchLongAgreesWithMatchShort", fn := fun _ => fun
  | [d1, d2] => { results := [.lit (.bool true)], args := [d1, d2] }
  | _ => none }
def fnMatchLongAgreesWithMatchShortRow : OpenClaim := { program := "qxb6003855a", sum := "608e2ad66eccf50aba5c3746d78fb47c6c28267dd7c1f79d1c81dcfff25383a1", func := "example.com/ledgerline/ledgerline/zzlaws_internal_match_b1.FnMatchLongAgreesWithMatchShort", spec := "fnMatchLongAgreesWithMatchShort", unfollowed := true, recurses := true, apart := false }
def FnMatchLongAgreesWithMatchShortSaid : Prop := fnMatchLongAgreesWithMatchShortRow.holds Try.pinned (OpenSpec.ofChange fnMatchLongAgreesWithMatchShortSpec)

/-- ITS FALSE NEIGHBOUR: 'it returns false'. Refute it at one input. -/
def fnMatchLongAgreesWithMatchShortWrong : ChangeSpec := { name := "fnMatchLongAgreesWithMatchShort", fn := fun _ => fun
  | [d1, d2] => { results := [.lit (.bool false)], args := [d1, d2] }
  | _ => none }
def FnMatchLongAgreesWithMatchShortWrongFalsely : Prop := fnMatchLongAgreesWithMatchShortRow.holds Try.pinned (OpenSpec.ofChange fnMatchLongAgreesWithMatchShortWrong)

/-- 'zzlaws_internal_match_b1.FnMatchLongCountIsSymmetricAndBounded': WHATEVER THE INPUT: true; the input reads as it did. -/
def fnMatchLongCountIsSymmetricAndBoundedSpec : ChangeSpec := { name := "fnMatchLongCountIsSymmetricAndBounded", fn := fun _ => fun
  | [d1, d2] => { results := [.lit (.bool true)], args := [d1, d2] }
  | _ => none }
def fnMatchLongCountIsSymmetricAndBoundedRow : OpenClaim := { program := "qxb6003855a", sum := "608e2ad66eccf50aba5c3746d78fb47c6c28267dd7c1f79d1c81dcfff25383a1", func := "example.com/ledgerline/ledgerline/zzlaws_internal_match_b1.FnMatchLongCountIsSymmetricAndBounded", spec := "fnMatchLongCountIsSymmetricAndBounded", unfollowed := true, recurses := true, apart := false }
def FnMatchLongCountIsSymmetricAndBoundedSaid : Prop := fnMatchLongCountIsSymmetricAndBoundedRow.holds Try.pinned (OpenSpec.ofChange fnMatchLongCountIsSymmetricAndBoundedSpec)

/-- ITS FALSE NEIGHBOUR: 'it returns false'. Refute it at one input. -/
def fnMatchLongCountIsSymmetricAndBoundedWrong : ChangeSpec := { name := "fnMatchLongCountIsSymmetricAndBounded", fn := fun _ => fun
  | [d1, d2] => { results := [.lit (.bool false)], args := [d1, d2] }
  | _ => none }
def FnMatchLongCountIsSymmetricAndBoundedWrongFalsely : Prop := fnMatchLongCountIsSymmetricAndBoundedRow.holds Try.pinned (OpenSpec.ofChange fnMatchLongCountIsSymmetricAndBoundedWrong)

/-- 'zzlaws_internal_match_b1.FnMatchLongSelfMatchesAllInOrder': WHATEVER THE INPUT: true; the input reads as it did. -/
def fnMatchLongSelfMatchesAllInOrderSpec : ChangeSpec := { name := "fnMatchLongSelfMatchesAllInOrder", fn := fun _ => fun
  | [d] => { results := [.lit (.bool true)], args := [d] }
  | _ => none }
def fnMatchLongSelfMatchesAllInOrderRow : OpenClaim := { program := "qxb6003855a", sum := "608e2ad66eccf50aba5c3746d78fb47c6c28267dd7c1f79d1c81dcfff25383a1", func := "example.com/ledgerline/ledgerline/zzlaws_internal_match_b1.FnMatchLongSelfMatchesAllInOrder", spec := "fnMatchLongSelfMatchesAllInOrder", unfollowed := true, recurses := true, apart := false }
def FnMatchLongSelfMatchesAllInOrderSaid : Prop := fnMatchLongSelfMatchesAllInOrderRow.holds Try.pinned (OpenSpec.ofChange fnMatchLongSelfMatchesAllInOrderSpec)

/-- ITS FALSE NEIGHBOUR: 'it returns false'. Refute it at one input. -/
def fnMatchLongSelfMatchesAllInOrderWrong : ChangeSpec := { name := "fnMatchLongSelfMatchesAllInOrder", fn := fun _ => fun
  | [d] => { results := [.lit (.bool false)], args := [d] }
  | _ => none }
def FnMatchLongSelfMatchesAllInOrderWrongFalsely : Prop := fnMatchLongSelfMatchesAllInOrderRow.holds Try.pinned (OpenSpec.ofChange fnMatchLongSelfMatchesAllInOrderWrong)

/-- 'zzlaws_internal_match_b1.FnJaroWinklerSelfIsOne': WHATEVER THE INPUT: true; the input reads as it did. -/
def fnJaroWinklerSelfIsOneSpec : ChangeSpec := { name := "fnJaroWinklerSelfIsOne", fn := fun _ => fun
  | [d] => { results := [.lit (.bool true)], args := [d] }
  | _ => none }
def fnJaroWinklerSelfIsOneRow : OpenClaim := { program := "qxb6003855a", sum := "608e2ad66eccf50aba5c3746d78fb47c6c28267dd7c1f79d1c81dcfff25383a1", func := "example.com/ledgerline/ledgerline/zzlaws_internal_match_b1.FnJaroWinklerSelfIsOne", spec := "fnJaroWinklerSelfIsOne", unfollowed := true, recurses := true, apart := false }
def FnJaroWinklerSelfIsOneSaid : Prop := fnJaroWinklerSelfIsOneRow.holds Try.pinned (OpenSpec.ofChange fnJaroWinklerSelfIsOneSpec)

/-- ITS FALSE NEIGHBOUR: 'it returns false'. Refute it at one input. -/
def fnJaroWinklerSelfIsOneWrong : ChangeSpec := { name := "fnJaroWinklerSelfIsOne", fn := fun _ => fun
  | [d] => { results := [.lit (.bool false)], args := [d] }
  | _ => none }
def FnJaroWinklerSelfIsOneWrongFalsely : Prop := fnJaroWinklerSelfIsOneRow.holds Try.pinned (OpenSpec.ofChange fnJaroWinklerSelfIsOneWrong)

end Rows
end Go.Proofs.Qxb6003855a
