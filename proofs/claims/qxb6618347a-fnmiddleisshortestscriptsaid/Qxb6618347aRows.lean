/-
  No cell of these rows narrows 'for every input' (looked for: loops, veiled, ifaces, maps, wideKeys, modest, calm, conditions, laid).
  DERIVED. THE GIVEN ROWS OF THIS SEAT. 2 by the template 'for every input the law returns true; each argument reads behind the call as it read before'; 0 by the template 'total and deterministic' (their statements: Qxb6618347aTotals.lean).
  GIVEN WITH THE SEED: the statements are not yours to turn. If you find one false, say at which input.
  Laid BY PROGRAM, IN A SANDBOX (cutbox-rows.mjs): the forced cells as the released guide's own fill.sh prints them over the translation 44b0ee72052dd5fe… (all of the seat's roots in one cut). By AI agents, Wed Nov 11 2026. No macro, syntax, notation, axiom, sorry.
-/
import Derived.Test.Qxb6618347aChecked
import GoSem.Claim
import GoSem.ClaimJoined
import GoSem.ClaimMapViews
import Derived.JoinedTies
import Derived.KernelRfl
namespace Go.Proofs.Qxb6618347a
/- THE CELL 'sum', in the pinned program and in every row, IS THE sha256 OF THE DUMP (.gsa) THAT Qxb6618347aProg.lean LOADS. Nothing in Lean hashes anything: it is a label: what it is worth is what the hold of that sum in a sandbox is worth. -/
noncomputable def Try.pinned : Pinned := { name := "qxb6618347a", sum := "44b0ee72052dd5fe4f8517105601dceac9b0ae1250e1421186fbe15c47287164", checked := Try.checked }
namespace Rows
def none {H : Type} : Left H := { results := [], args := [] }

/-- 'zzlaws_internal_diff_b1.FnMiddleIsShortestScript': WHATEVER THE INPUT: true; the input reads as it did. -/
def fnMiddleIsShortestScriptSpec : ChangeSpec := { name := "fnMiddleIsShortestScript", fn := fun _ => fun
  | [d1, d2] => { results := [.lit (.bool true)], args := [d1, d2] }
  | _ => none }
def fnMiddleIsShortestScriptRow : OpenClaim := { program := "qxb6618347a", sum := "44b0ee72052dd5fe4f8517105601dceac9b0ae1250e1421186fbe15c47287164", func := "example.com/byname/byname/zzlaws_internal_diff_b1.FnMiddleIsShortestScript", spec := "fnMiddleIsShortestScript", apart := false }
def FnMiddleIsShortestScriptSaid : Prop := fnMiddleIsShortestScriptRow.holds Try.pinned (OpenSpec.ofChange fnMiddleIsShortestScriptSpec)

/-- ITS FALSE NEIGHBOUR: 'it returns false'. Refute it at one input. -/
def fnMiddleIsShortestScriptWrong : ChangeSpec := { name := "fnMiddleIsShortestScript", fn := fun _ => fun
  | [d1, d2] => { results := [.lit (.bool false)], args := [d1, d2] }
  | _ => none }
def FnMiddleIsShortestScriptWrongFalsely : Prop := fnMiddleIsShortestScriptRow.holds Try.pinned (OpenSpec.ofChange fnMiddleIsShortestScriptWrong)

/-- 'zzlaws_internal_diff_b1.FnMiddleKeepsCommonPrefix': WHATEVER THE INPUT: true; the input reads as it did. -/
def fnMiddleKeepsCommonPrefixSpec : ChangeSpec := { name := "fnMiddleKeepsCommonPrefix", fn := fun _ => fun
  | [d1, d2, d3] => { results := [.lit (.bool true)], args := [d1, d2, d3] }
  | _ => none }
def fnMiddleKeepsCommonPrefixRow : OpenClaim := { program := "qxb6618347a", sum := "44b0ee72052dd5fe4f8517105601dceac9b0ae1250e1421186fbe15c47287164", func := "example.com/byname/byname/zzlaws_internal_diff_b1.FnMiddleKeepsCommonPrefix", spec := "fnMiddleKeepsCommonPrefix", apart := false }
def FnMiddleKeepsCommonPrefixSaid : Prop := fnMiddleKeepsCommonPrefixRow.holds Try.pinned (OpenSpec.ofChange fnMiddleKeepsCommonPrefixSpec)

/-- ITS FALSE NEIGHBOUR: 'it returns false'. Refute it at one input. -/
def fnMiddleKeepsCommonPrefixWrong : ChangeSpec := { name := "fnMiddleKeepsCommonPrefix", fn := fun _ => fun
  | [d1, d2, d3] => { results := [.lit (.bool false)], args := [d1, d2, d3] }
  | _ => none }
def FnMiddleKeepsCommonPrefixWrongFalsely : Prop := fnMiddleKeepsCommonPrefixRow.holds Try.pinned (OpenSpec.ofChange fnMiddleKeepsCommonPrefixWrong)

end Rows
end Go.Proofs.Qxb6618347a
