/-
  No cell of these rows narrows 'for every input' (looked for: loops, veiled, ifaces, maps, wideKeys, modest, calm, conditions, laid).
  DERIVED. THE GIVEN ROWS OF THIS SEAT. 1 by the template 'for every input the law returns true; each argument reads behind the call as it read before'; 0 by the template 'total and deterministic' (their statements: Qxb6618350aTotals.lean).
  GIVEN WITH THE SEED: the statements are not yours to turn. If you find one false, say at which input.
  Laid BY PROGRAM, IN A SANDBOX (cutbox-rows.mjs): the forced cells as the released guide's own fill.sh prints them over the translation 2669888c29a600e0… (all of the seat's roots in one cut). By AI agents, Wed Nov 11 2026. No macro, syntax, notation, axiom, sorry.
-/
import Derived.Test.Qxb6618350aChecked
import GoSem.Claim
import GoSem.ClaimJoined
import GoSem.ClaimMapViews
import Derived.JoinedTies
import Derived.KernelRfl
namespace Go.Proofs.Qxb6618350a
/- THE CELL 'sum', in the pinned program and in every row, IS THE sha256 OF THE DUMP (.gsa) THAT Qxb6618350aProg.lean LOADS. Nothing in Lean hashes anything: it is a label: what it is worth is what the hold of that sum in a sandbox is worth. -/
noncomputable def Try.pinned : Pinned := { name := "qxb6618350a", sum := "2669888c29a600e0db4a2046ff7b93b0b485dbcd3820320c7c11e499395fbfce", checked := Try.checked }
namespace Rows
def none {H : Type} : Left H := { results := [], args := [] }

/-- 'zzlaws_pkg_lincheck_b1.FnWithoutCutAndCount': WHATEVER THE INPUT: true; the input reads as it did. -/
def fnWithoutCutAndCountSpec : ChangeSpec := { name := "fnWithoutCutAndCount", fn := fun _ => fun
  | [d1, d2, d3, d4, d5] => { results := [.lit (.bool true)], args := [d1, d2, d3, d4, d5] }
  | _ => none }
def fnWithoutCutAndCountRow : OpenClaim := { program := "qxb6618350a", sum := "2669888c29a600e0db4a2046ff7b93b0b485dbcd3820320c7c11e499395fbfce", func := "example.com/vicinity/vicinity/zzlaws_pkg_lincheck_b1.FnWithoutCutAndCount", spec := "fnWithoutCutAndCount", unfollowed := true, recurses := true, apart := false }
def FnWithoutCutAndCountSaid : Prop := fnWithoutCutAndCountRow.holds Try.pinned (OpenSpec.ofChange fnWithoutCutAndCountSpec)

/-- ITS FALSE NEIGHBOUR: 'it returns false'. Refute it at one input. -/
def fnWithoutCutAndCountWrong : ChangeSpec := { name := "fnWithoutCutAndCount", fn := fun _ => fun
  | [d1, d2, d3, d4, d5] => { results := [.lit (.bool false)], args := [d1, d2, d3, d4, d5] }
  | _ => none }
def FnWithoutCutAndCountWrongFalsely : Prop := fnWithoutCutAndCountRow.holds Try.pinned (OpenSpec.ofChange fnWithoutCutAndCountWrong)

end Rows
end Go.Proofs.Qxb6618350a
