/-
  No cell of these rows narrows 'for every input' (looked for: loops, veiled, ifaces, maps, wideKeys, modest, calm, conditions, laid).
  DERIVED. THE GIVEN ROWS OF THIS SEAT. 2 by the template 'for every input the law returns true; each argument reads behind the call as it read before'; 0 by the template 'total and deterministic' (their statements: Qxb6605460aTotals.lean).
  GIVEN WITH THE SEED: the statements are not yours to turn. If you find one false, say at which input.
  Laid BY PROGRAM, IN A SANDBOX (cutbox-rows.mjs): the forced cells as the released guide's own fill.sh prints them over the translation c40d466eada716c8… (all of the seat's roots in one cut). By AI agents, Wed Nov 11 2026. No macro, syntax, notation, axiom, sorry.
-/
import Derived.Test.Qxb6605460aChecked
import GoSem.Claim
import GoSem.ClaimJoined
import GoSem.ClaimMapViews
import Derived.JoinedTies
import Derived.KernelRfl
namespace Go.Proofs.Qxb6605460a
/- THE CELL 'sum', in the pinned program and in every row, IS THE sha256 OF THE DUMP (.gsa) THAT Qxb6605460aProg.lean LOADS. Nothing in Lean hashes anything: it is a label: what it is worth is what the hold of that sum in a sandbox is worth. -/
noncomputable def Try.pinned : Pinned := { name := "qxb6605460a", sum := "c40d466eada716c83e22feae3647a049138ca66b1117f225c0433c27cd8140bd", checked := Try.checked }
namespace Rows
def none {H : Type} : Left H := { results := [], args := [] }

/-- 'zzlaws_internal_diff_b1.FnShortestIsAShortestEditScript': WHATEVER THE INPUT: true; the input reads as it did. -/
def fnShortestIsAShortestEditScriptSpec : ChangeSpec := { name := "fnShortestIsAShortestEditScript", fn := fun _ => fun
  | [d1, d2] => { results := [.lit (.bool true)], args := [d1, d2] }
  | _ => none }
def fnShortestIsAShortestEditScriptRow : OpenClaim := { program := "qxb6605460a", sum := "c40d466eada716c83e22feae3647a049138ca66b1117f225c0433c27cd8140bd", func := "example.com/hearthwright/hearthwright/zzlaws_internal_diff_b1.FnShortestIsAShortestEditScript", spec := "fnShortestIsAShortestEditScript", unfollowed := true, recurses := true, apart := false }
def FnShortestIsAShortestEditScriptSaid : Prop := fnShortestIsAShortestEditScriptRow.holds Try.pinned (OpenSpec.ofChange fnShortestIsAShortestEditScriptSpec)

/-- ITS FALSE NEIGHBOUR: 'it returns false'. Refute it at one input. -/
def fnShortestIsAShortestEditScriptWrong : ChangeSpec := { name := "fnShortestIsAShortestEditScript", fn := fun _ => fun
  | [d1, d2] => { results := [.lit (.bool false)], args := [d1, d2] }
  | _ => none }
def FnShortestIsAShortestEditScriptWrongFalsely : Prop := fnShortestIsAShortestEditScriptRow.holds Try.pinned (OpenSpec.ofChange fnShortestIsAShortestEditScriptWrong)

/-- 'zzlaws_internal_diff_b1.FnScriptIsAShortestEditScript': WHATEVER THE INPUT: true; the input reads as it did. -/
def fnScriptIsAShortestEditScriptSpec : ChangeSpec := { name := "fnScriptIsAShortestEditScript", fn := fun _ => fun
  | [d1, d2] => { results := [.lit (.bool true)], args := [d1, d2] }
  | _ => none }
def fnScriptIsAShortestEditScriptRow : OpenClaim := { program := "qxb6605460a", sum := "c40d466eada716c83e22feae3647a049138ca66b1117f225c0433c27cd8140bd", func := "example.com/hearthwright/hearthwright/zzlaws_internal_diff_b1.FnScriptIsAShortestEditScript", spec := "fnScriptIsAShortestEditScript", unfollowed := true, recurses := true, apart := false }
def FnScriptIsAShortestEditScriptSaid : Prop := fnScriptIsAShortestEditScriptRow.holds Try.pinned (OpenSpec.ofChange fnScriptIsAShortestEditScriptSpec)

/-- ITS FALSE NEIGHBOUR: 'it returns false'. Refute it at one input. -/
def fnScriptIsAShortestEditScriptWrong : ChangeSpec := { name := "fnScriptIsAShortestEditScript", fn := fun _ => fun
  | [d1, d2] => { results := [.lit (.bool false)], args := [d1, d2] }
  | _ => none }
def FnScriptIsAShortestEditScriptWrongFalsely : Prop := fnScriptIsAShortestEditScriptRow.holds Try.pinned (OpenSpec.ofChange fnScriptIsAShortestEditScriptWrong)

end Rows
end Go.Proofs.Qxb6605460a
