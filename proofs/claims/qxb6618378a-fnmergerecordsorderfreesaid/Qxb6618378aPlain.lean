/-
  The plain law: the merge of two records that agree where both hold a row does not ask their order.
-/
import Derived.Test.Qxb6618378aZZ
namespace Go.Proofs.Qxb6618378a
open Go.RowKit

theorem lenM_swap (xc yc : Int) (n m : Nat) : lenM yc xc m n = lenM xc yc n m := by unfold lenM; omega
theorem stab_swap (xs ys xc yc : Int) (n m : Nat) : max ys (max xs (min (yc + m) (xc + n))) = max xs (max ys (min (xc + n) (yc + m))) := by omega

theorem rowsM_swap (xc yc : Int) (n m : Nat) (X Y : List (List (Int × Int))) (h : ∀ t : Int, max xc yc ≤ t → t < min (xc + n) (yc + m) → X.getD (t - xc).toNat [] = Y.getD (t - yc).toNat []) :
    rowsM yc xc m n Y X = rowsM xc yc n m X Y := by
  unfold rowsM
  rw [lenM_swap, Int.max_comm yc xc]
  apply List.map_congr_left
  intro t ht
  rw [List.mem_range] at ht
  unfold lenM at ht
  unfold mrg
  by_cases h1 : max xc yc + 1 + t ≤ xc + n
  · by_cases h2 : max xc yc + 1 + t ≤ yc + m
    · rw [if_pos h1, if_pos h2]
      exact (h _ (by omega) (by omega)).symm
    · rw [if_pos h1, if_neg h2]
  · by_cases h2 : max xc yc + 1 + t ≤ yc + m
    · rw [if_neg h1, if_pos h2]
    · omega

theorem goneM_swap (xc yc : Int) (n m : Nat) (X Y : List (List (Int × Int))) (t : Int × Int) : t ∈ goneM yc xc m n Y X ↔ t ∈ goneM xc yc n m X Y := by
  show t ∈ gone (max yc xc) yc m Y ++ gone (max yc xc) xc n X ↔ t ∈ gone (max xc yc) xc n X ++ gone (max xc yc) yc m Y
  rw [Int.max_comm yc xc, List.mem_append, List.mem_append, or_comm]

theorem gone_mem {C c : Int} {k : Nat} {Z : List (List (Int × Int))} {t : Int × Int} (h : t ∈ gone C c k Z) : ∃ T ∈ Z, t ∈ T := by
  unfold gone at h
  obtain ⟨T, hT, ht⟩ := List.mem_flatten.1 h
  exact ⟨T, List.mem_of_mem_take hT, ht⟩
theorem goneM_good {xc yc : Int} {n m : Nat} {X Y : List (List (Int × Int))} (gX : ∀ T ∈ X, ∀ t ∈ T, GoodTag t) (gY : ∀ T ∈ Y, ∀ t ∈ T, GoodTag t) : ∀ t ∈ goneM xc yc n m X Y, GoodTag t := by
  intro t ht
  have ht' : t ∈ gone (max xc yc) xc n X ++ gone (max xc yc) yc m Y := ht
  rcases List.mem_append.1 ht' with h | h
  · obtain ⟨T, hT, h⟩ := gone_mem h
    exact gX T hT t h
  · obtain ⟨T, hT, h⟩ := gone_mem h
    exact gY T hT t h

theorem getD_len {X : List (List (Int × Int))} {n : Nat} (hX : X.length = n) (lX : ∀ j, j < n → (X.getD j []).length ≤ 65536) (j : Nat) : (X.getD j []).length ≤ 65536 := by
  by_cases h : j < n
  · exact lX j h
  · rw [List.getD_eq_getElem?_getD, List.getElem?_eq_none (by omega)]
    simp
theorem rowsM_len {xc yc : Int} {n m : Nat} {X Y : List (List (Int × Int))} (hX : X.length = n) (hY : Y.length = m) (lX : ∀ j, j < n → (X.getD j []).length ≤ 65536) (lY : ∀ j, j < m → (Y.getD j []).length ≤ 65536) (k : Nat) (hk : k < lenM xc yc n m) :
    ((rowsM xc yc n m X Y).getD k []).length ≤ 65536 := by
  have e : (rowsM xc yc n m X Y).getD k [] = mrg (max xc yc) xc yc n X Y k := by
    unfold rowsM
    simp [hk]
  rw [e]
  unfold mrg
  split
  · exact getD_len hX lX _
  · exact getD_len hY lY _
end Go.Proofs.Qxb6618378a
