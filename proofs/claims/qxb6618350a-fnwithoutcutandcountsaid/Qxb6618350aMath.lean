/-
  Plain mathematics of 'without' on a list of batches (kind, count). No Go in sight.
-/
namespace Go.Proofs.Qxb6618350a

/-- int's wrap. -/
def w64 (x : Int) : Int := (x + 9223372036854775808) % 18446744073709551616 - 9223372036854775808

/-- One member of kind c taken out. -/
def wo (c : Int) : List (Int × Int) → List (Int × Int)
  | [] => []
  | (k, n) :: R => if k = c then (if w64 (n - 1) = 0 then R else (k, w64 (n - 1)) :: R) else (k, n) :: wo c R

def hasB (X : List Int) (c : Int) : Bool := X.any fun x => x == c
def posB (X : List Int) : Bool := X.all fun x => decide (1 ≤ x)

theorem hasB_cons (x : Int) (X : List Int) (c : Int) : hasB (x :: X) c = (x == c || hasB X c) := rfl
theorem hasB_append (X Y : List Int) (c : Int) : hasB (X ++ Y) c = (hasB X c || hasB Y c) := by simp [hasB]
theorem hasB_false {X : List Int} {c : Int} : hasB X c = false ↔ ∀ j, j < X.length → X.getD j 0 ≠ c := by
  constructor
  · intro h j hj e
    have : hasB X c = true := by
      unfold hasB
      rw [List.any_eq_true]
      refine ⟨X[j], List.getElem_mem hj, ?_⟩
      rw [List.getD_eq_getElem?_getD, List.getElem?_eq_getElem hj] at e
      simpa using e
    rw [h] at this; exact absurd this (by decide)
  · intro h
    unfold hasB
    rw [List.any_eq_false]
    intro x hx
    obtain ⟨j, hj, rfl⟩ := List.mem_iff_getElem.1 hx
    have := h j hj
    rw [List.getD_eq_getElem?_getD, List.getElem?_eq_getElem hj] at this
    simpa using this
theorem hasB_true {X : List Int} {c : Int} {j : Nat} (hj : j < X.length) (h : X.getD j 0 = c) : hasB X c = true := by
  unfold hasB
  rw [List.any_eq_true]
  refine ⟨X[j], List.getElem_mem hj, ?_⟩
  rw [List.getD_eq_getElem?_getD, List.getElem?_eq_getElem hj] at h
  simpa using h
theorem posB_true {X : List Int} : (∀ j, j < X.length → 1 ≤ X.getD j 0) ↔ posB X = true := by
  unfold posB
  rw [List.all_eq_true]
  constructor
  · intro h x hx
    obtain ⟨j, hj, rfl⟩ := List.mem_iff_getElem.1 hx
    have := h j hj
    rw [List.getD_eq_getElem?_getD, List.getElem?_eq_getElem hj] at this
    simpa using this
  · intro h j hj
    have := h X[j] (List.getElem_mem hj)
    rw [List.getD_eq_getElem?_getD, List.getElem?_eq_getElem hj]
    simpa using this
theorem posB_false {X : List Int} {j : Nat} (hj : j < X.length) (h : X.getD j 0 < 1) : posB X = false := by
  cases hp : posB X with
  | false => rfl
  | true => have := posB_true.2 hp j hj; omega

theorem wo_append (c : Int) : ∀ A B : List (Int × Int), wo c (A ++ B) = if hasB (A.map (·.1)) c then wo c A ++ B else A ++ wo c B
  | [], B => by simp [hasB]
  | (k, n) :: A, B => by
    have ih := wo_append c A B
    simp only [List.cons_append, wo, List.map_cons, hasB_cons]
    by_cases h : k = c
    · subst h
      simp only [if_true, beq_self_eq_true, Bool.true_or]
      split <;> rfl
    · have hb : (k == c) = false := by simpa using h
      simp only [h, if_false, hb, Bool.false_or, ih]
      split <;> rfl
theorem wo_none (c : Int) : ∀ A : List (Int × Int), hasB (A.map (·.1)) c = false → wo c A = A
  | [], _ => rfl
  | (k, n) :: A, h => by
    simp only [List.map_cons, hasB_cons, Bool.or_eq_false_iff] at h
    have : ¬ k = c := by simpa using h.1
    simp only [wo, this, if_false, wo_none c A h.2]
/-- By the place of the first batch of kind c. -/
theorem wo_at (c : Int) : ∀ (A : List (Int × Int)) (i : Nat) (n : Int), (∀ j, j < i → (A.getD j (0, 0)).1 ≠ c) → A[i]? = some (c, n) →
    wo c A = if w64 (n - 1) = 0 then A.eraseIdx i else A.set i (c, w64 (n - 1))
  | [], i, n, _, h => by simp at h
  | (k, m) :: A, 0, n, _, h => by
    simp at h
    obtain ⟨rfl, rfl⟩ := h
    simp [wo]
  | (k, m) :: A, i + 1, n, hb, h => by
    have h0 := hb 0 (by omega)
    simp at h0
    have ih := wo_at c A i n (fun j hj => by have := hb (j + 1) (by omega); simpa using this) (by simpa using h)
    simp only [wo, h0, if_false, ih, List.eraseIdx_cons_succ, List.set_cons_succ]
    split <;> rfl
theorem wo_length (c : Int) : ∀ A : List (Int × Int), (wo c A).length = A.length ∨ (hasB (A.map (·.1)) c = true ∧ (wo c A).length + 1 = A.length)
  | [] => .inl rfl
  | (k, n) :: A => by
    have ih := wo_length c A
    simp only [wo, List.map_cons, hasB_cons]
    by_cases h : k = c
    · subst h
      simp only [if_true, beq_self_eq_true, Bool.true_or]
      split
      · exact .inr ⟨trivial, rfl⟩
      · exact .inl rfl
    · simp only [h, if_false, List.length_cons]
      rcases ih with ih | ⟨h1, h2⟩
      · exact .inl (by omega)
      · exact .inr ⟨by simp [h1], by omega⟩

/-- The members of kind k. -/
def tot (k : Int) : List (Int × Int) → Int
  | [] => 0
  | (c, n) :: R => (if c = k then n else 0) + tot k R
theorem tot_append (k : Int) : ∀ A B : List (Int × Int), tot k (A ++ B) = tot k A + tot k B
  | [], B => by simp [tot]
  | (c, n) :: A, B => by simp only [List.cons_append, tot, tot_append k A B]; omega

theorem w64_id {x : Int} (h1 : -9223372036854775808 ≤ x) (h2 : x ≤ 9223372036854775807) : w64 x = x := by unfold w64; omega

/-- Counts of at least one, that an int holds. -/
def Pos (A : List (Int × Int)) : Prop := ∀ x ∈ A, 1 ≤ x.2 ∧ x.2 ≤ 9223372036854775807
theorem wo_pos (c : Int) : ∀ A : List (Int × Int), Pos A → Pos (wo c A)
  | [], h => h
  | (k, n) :: A, h => by
    have h0 := h (k, n) (by simp)
    have hA : Pos A := fun x hx => h x (by simp [hx])
    have e : w64 (n - 1) = n - 1 := w64_id (by simp only at h0; omega) (by simp only at h0; omega)
    simp only [wo]
    split
    · split
      · exact hA
      · intro x hx
        rw [List.mem_cons] at hx
        rcases hx with rfl | hx
        · simp only at h0 ⊢; omega
        · exact hA x hx
    · intro x hx
      rw [List.mem_cons] at hx
      rcases hx with rfl | hx
      · exact h0
      · exact wo_pos c A hA x hx
theorem wo_tot (c k : Int) : ∀ A : List (Int × Int), Pos A → tot k (wo c A) = tot k A - (if hasB (A.map (·.1)) c = true ∧ k = c then 1 else 0)
  | [], _ => by simp [wo, tot, hasB]
  | (j, n) :: A, h => by
    have h0 := h (j, n) (by simp)
    have hA : Pos A := fun x hx => h x (by simp [hx])
    have e : w64 (n - 1) = n - 1 := w64_id (by simp only at h0; omega) (by simp only at h0; omega)
    have ih := wo_tot c k A hA
    simp only [wo, List.map_cons, hasB_cons]
    by_cases hj : j = c
    · subst hj
      simp only [if_true, beq_self_eq_true, Bool.true_or, true_and, e]
      by_cases hk : k = j
      · subst hk
        simp only [tot, if_true]
        split <;> (try simp only [tot, if_true]) <;> omega
      · have hk' : ¬ j = k := fun h => hk h.symm
        simp only [hk, if_false, tot, hk', Int.sub_zero]
        split <;> simp [tot, hk']
    · have hb : (j == c) = false := by simpa using hj
      simp only [hj, if_false, tot, hb, Bool.false_or, ih]
      omega

/-- Running over the first i places. -/
theorem tot_take (k : Int) (A : List (Int × Int)) (i : Nat) (h : i < A.length) : tot k (A.take (i + 1)) = tot k (A.take i) + (if (A.getD i (0, 0)).1 = k then (A.getD i (0, 0)).2 else 0) := by
  rw [List.take_succ_eq_append_getElem h, tot_append]
  simp [tot, List.getD_eq_getElem?_getD, h]

end Go.Proofs.Qxb6618350a
