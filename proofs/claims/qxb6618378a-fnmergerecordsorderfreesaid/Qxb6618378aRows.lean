/-
  No cell of these rows narrows 'for every input' (looked for: loops, veiled, ifaces, maps, wideKeys, modest, calm, conditions, laid).
  DERIVED. THE GIVEN ROWS OF THIS SEAT. 1 by the template 'for every input the law returns true; each argument reads behind the call as it read before'; 0 by the template 'total and deterministic' (their statements: Qxb6618378aTotals.lean).
  GIVEN WITH THE SEED: the statements are not yours to turn. If you find one false, say at which input.
  Laid BY PROGRAM, IN A SANDBOX (cutbox-rows.mjs): the forced cells as the released guide's own fill.sh prints them over the translation ad54aa95e466e541… (all of the seat's roots in one cut). By AI agents, Wed Nov 11 2026. No macro, syntax, notation, axiom, sorry.
-/
import Derived.Test.Qxb6618378aChecked
import GoSem.Claim
import GoSem.ClaimJoined
import GoSem.ClaimMapViews
import Derived.JoinedTies
import Derived.KernelRfl
namespace Go.Proofs.Qxb6618378a
/- THE CELL 'sum', in the pinned program and in every row, IS THE sha256 OF THE DUMP (.gsa) THAT Qxb6618378aProg.lean LOADS. Nothing in Lean hashes anything: it is a label: what it is worth is what the hold of that sum in a sandbox is worth. -/
noncomputable def Try.pinned : Pinned := { name := "qxb6618378a", sum := "ad54aa95e466e5411d564e6ca400deb0f66224bb694fc2547ac09d44117405d7", checked := Try.checked }
namespace Rows
def none {H : Type} : Left H := { results := [], args := [] }

/-- 'zzlaws_orset_b1.FnMergeRecordsOrderFree': WHATEVER THE INPUT: true; the input reads as it did. -/
def fnMergeRecordsOrderFreeSpec : ChangeSpec := { name := "fnMergeRecordsOrderFree", fn := fun _ => fun
  | [d1, d2, d3, d4, d5, d6, d7, d8, d9] => { results := [.lit (.bool true)], args := [d1, d2, d3, d4, d5, d6, d7, d8, d9] }
  | _ => none }
def fnMergeRecordsOrderFreeRow : OpenClaim := { program := "qxb6618378a", sum := "ad54aa95e466e5411d564e6ca400deb0f66224bb694fc2547ac09d44117405d7", func := "example.com/ossuary/ossuary/zzlaws_orset_b1.FnMergeRecordsOrderFree", spec := "fnMergeRecordsOrderFree", plainKeys := false, apart := false }
def FnMergeRecordsOrderFreeSaid : Prop := fnMergeRecordsOrderFreeRow.holds Try.pinned (OpenSpec.ofChange fnMergeRecordsOrderFreeSpec)

/-- ITS FALSE NEIGHBOUR: 'it returns false'. Refute it at one input. -/
def fnMergeRecordsOrderFreeWrong : ChangeSpec := { name := "fnMergeRecordsOrderFree", fn := fun _ => fun
  | [d1, d2, d3, d4, d5, d6, d7, d8, d9] => { results := [.lit (.bool false)], args := [d1, d2, d3, d4, d5, d6, d7, d8, d9] }
  | _ => none }
def FnMergeRecordsOrderFreeWrongFalsely : Prop := fnMergeRecordsOrderFreeRow.holds Try.pinned (OpenSpec.ofChange fnMergeRecordsOrderFreeWrong)

end Rows
end Go.Proofs.Qxb6618378a
