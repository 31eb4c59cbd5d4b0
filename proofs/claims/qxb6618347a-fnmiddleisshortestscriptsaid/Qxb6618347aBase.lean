/-
  Shared small facts: the element types' rows of the table; edits as cells.
-/
import Derived.Test.Qxb6618347aProg
import Derived.Test.Qxb6618347aMath
import Derived.WalkKit
import Derived.WalkSpells
import Derived.WalkLawsBesides
import Derived.KernelRfl
import Derived.RegionTactic
import Derived.BigRegion
import Derived.Deep.QuietTactic
import Derived.BigQuiet
namespace Go.Proofs.Qxb6618347a
open Go.RowKit

theorem Try.info3 : (Try.prog.info? 3).map (fun i => (i.zero, i.size, i.bytes)) = some (some (.int .i64 0), 1, 8) := by kernel_rfl
theorem Try.info5 : (Try.prog.info? 5).map (fun i => (i.zero, i.size, i.bytes)) = some (some (.int .u8 0), 1, 1) := by kernel_rfl
theorem Try.info9 : (Try.prog.info? 9).map (fun i => (i.zero, i.size, i.bytes)) = some (some (.string ByteArray.empty), 1, 16) := by kernel_rfl
theorem Try.info33 : (Try.prog.info? 33).map (fun i => (i.zero, i.size, i.bytes)) = some (some (.agg #[.int .u8 0, .string ByteArray.empty]), 2, 24) := by kernel_rfl
theorem Try.info34 : (Try.prog.info? 34).map (fun i => (i.zero, i.size, i.bytes)) = some (some (.slice none 0 0), 1, 24) := by kernel_rfl

/-- A list of edits as the cells of a row. -/
def ecells (E : List (Int × ByteArray)) : List Value := E.flatMap fun e => [.int .u8 e.1, .string e.2]
theorem length_ecells (E : List (Int × ByteArray)) : (ecells E).length = E.length * 2 := by
  induction E with
  | nil => rfl
  | cons e E ih => simp only [ecells, List.flatMap_cons, List.length_append, List.length_cons, List.length_nil] at ih ⊢; omega
theorem ecells_append (E F : List (Int × ByteArray)) : ecells (E ++ F) = ecells E ++ ecells F := by simp [ecells]
theorem ecells_one (k : Int) (s : ByteArray) : ecells [(k, s)] = [.int .u8 k, .string s] := rfl
theorem ecells_at : ∀ (E : List (Int × ByteArray)) (j : Nat) (e : Int × ByteArray), E[j]? = some e → (ecells E)[j * 2]? = some (.int .u8 e.1) ∧ (ecells E)[j * 2 + 1]? = some (.string e.2)
  | [], j, e, h => by simp at h
  | f :: E, 0, e, h => by simp at h; subst h; exact ⟨rfl, rfl⟩
  | f :: E, j + 1, e, h => by
    have := ecells_at E j e (by simpa using h)
    have e1 : (j + 1) * 2 = j * 2 + 1 + 1 := by omega
    simp only [ecells, List.flatMap_cons, List.cons_append, List.nil_append, e1, List.getElem?_cons_succ] at this ⊢
    exact this

/-- '==' on strings is equality. -/
theorem toList_beq (a b : ByteArray) : (a.toList == b.toList) = decide (a = b) := by
  by_cases h : a = b
  · subst h; simp
  · have : a.toList ≠ b.toList := fun e => h (ByteArray.ext (Array.toList_inj.1 (by simpa [ByteArray.toList_eq] using e)))
    simp [h, this]
end Go.Proofs.Qxb6618347a
