/-
  Plain mathematics of Myers' greedy search. No Go in sight.
-/
namespace Go.Proofs.Qxb6618347a

/-- Length of the common beginning of two lists. -/
def lcp : List ByteArray → List ByteArray → Nat
  | x :: xs, y :: ys => if x = y then lcp xs ys + 1 else 0
  | _, _ => 0

theorem lcp_nil_left (b : List ByteArray) : lcp [] b = 0 := by cases b <;> rfl
theorem lcp_nil_right (a : List ByteArray) : lcp a [] = 0 := by cases a <;> rfl
theorem lcp_le : ∀ a b : List ByteArray, lcp a b ≤ a.length ∧ lcp a b ≤ b.length
  | [], b => by simp [lcp_nil_left]
  | a :: as, [] => by simp [lcp_nil_right]
  | a :: as, b :: bs => by
    have := lcp_le as bs
    simp only [lcp, List.length_cons]
    split <;> omega
theorem lcp_append : ∀ p a b : List ByteArray, lcp (p ++ a) (p ++ b) = p.length + lcp a b
  | [], a, b => by simp
  | x :: p, a, b => by simp [lcp, lcp_append p a b]; omega
theorem lcp_take : ∀ a b : List ByteArray, ∀ i, i < lcp a b → a[i]? = b[i]?
  | [], b, i, h => by simp [lcp_nil_left] at h
  | a :: as, [], i, h => by simp [lcp_nil_right] at h
  | a :: as, b :: bs, i, h => by
    simp only [lcp] at h
    split at h
    · subst_vars
      cases i with
      | zero => rfl
      | succ i => simpa using lcp_take as bs i (by omega)
    · omega
theorem lcp_stop : ∀ a b : List ByteArray, ¬ (lcp a b < a.length ∧ lcp a b < b.length ∧ a[lcp a b]? = b[lcp a b]?)
  | [], b => by simp
  | a :: as, [] => by simp
  | a :: as, b :: bs => by
    have := lcp_stop as bs
    by_cases h : a = b
    · simp only [lcp, h, if_true, List.length_cons, List.getElem?_cons_succ, Nat.add_lt_add_iff_right]; exact this
    · simp [lcp, h]

theorem lcp_step (a b : List ByteArray) (x y : Nat) (hx : x < a.length) (hy : y < b.length) (h : a[x]? = b[y]?) :
    lcp (a.drop x) (b.drop y) = lcp (a.drop (x + 1)) (b.drop (y + 1)) + 1 := by
  rw [List.drop_eq_getElem_cons hx, List.drop_eq_getElem_cons hy]
  simp only [List.getElem?_eq_getElem hx, List.getElem?_eq_getElem hy, Option.some.injEq] at h
  simp [lcp, h]
theorem lcp_zero (a b : List ByteArray) (x y : Nat) (h : ¬ (x < a.length ∧ y < b.length ∧ a[x]? = b[y]?)) :
    lcp (a.drop x) (b.drop y) = 0 := by
  by_cases hx : x < a.length
  · by_cases hy : y < b.length
    · rw [List.drop_eq_getElem_cons hx, List.drop_eq_getElem_cons hy]
      simp only [hx, hy, List.getElem?_eq_getElem hx, List.getElem?_eq_getElem hy, Option.some.injEq, true_and] at h
      simp [lcp, h]
    · rw [List.drop_eq_nil_of_le (as := b) (by omega), lcp_nil_right]
  · rw [List.drop_eq_nil_of_le (as := a) (by omega), lcp_nil_left]

/-- The end of the slide on diagonal k from x. -/
def sl (A B : List ByteArray) (k x : Int) : Int := x + (lcp (A.drop x.toNat) (B.drop (x - k).toNat) : Int)
theorem sl_ge (A B : List ByteArray) (k x : Int) : x ≤ sl A B k x := by unfold sl; omega
theorem sl_stop (A B : List ByteArray) (k x : Int) (hx : 0 ≤ x) (hy : 0 ≤ x - k) :
    ¬ (sl A B k x < A.length ∧ sl A B k x - k < B.length ∧ A[(sl A B k x).toNat]? = B[(sl A B k x - k).toNat]?) := by
  intro ⟨h1, h2, h3⟩
  apply lcp_stop (A.drop x.toNat) (B.drop (x - k).toNat)
  have e1 : (sl A B k x).toNat = x.toNat + lcp (A.drop x.toNat) (B.drop (x - k).toNat) := by unfold sl; omega
  have e2 : (sl A B k x - k).toNat = (x - k).toNat + lcp (A.drop x.toNat) (B.drop (x - k).toNat) := by unfold sl; omega
  rw [e1, e2] at h3
  simp only [List.length_drop, List.getElem?_drop]
  unfold sl at h1 h2
  exact ⟨by omega, by omega, h3⟩
theorem sl_step (A B : List ByteArray) (k x : Int) (hx : 0 ≤ x) (hy : 0 ≤ x - k) (h1 : x < A.length) (h2 : x - k < B.length) (h : A[x.toNat]? = B[(x - k).toNat]?) : sl A B k x = sl A B k (x + 1) := by
  unfold sl
  rw [lcp_step A B x.toNat (x - k).toNat (by omega) (by omega) h]
  have e1 : (x + 1).toNat = x.toNat + 1 := by omega
  have e2 : (x + 1 - k).toNat = (x - k).toNat + 1 := by omega
  rw [e1, e2]; omega
theorem sl_zero (A B : List ByteArray) (k x : Int) (h : ¬ (x.toNat < A.length ∧ (x - k).toNat < B.length ∧ A[x.toNat]? = B[(x - k).toNat]?)) : sl A B k x = x := by
  unfold sl
  rw [lcp_zero A B _ _ h]; omega
/-- The slide ends inside, or did not move. -/
theorem sl_in (A B : List ByteArray) (k x : Int) (hx : 0 ≤ x) (hy : 0 ≤ x - k) : sl A B k x = x ∨ (sl A B k x ≤ A.length ∧ sl A B k x - k ≤ B.length) := by
  have h := lcp_le (A.drop x.toNat) (B.drop (x - k).toNat)
  simp only [List.length_drop] at h
  unfold sl
  omega
theorem sl_eq (A B : List ByteArray) (k x : Int) (hx : 0 ≤ x) (hy : 0 ≤ x - k) : ∀ i : Int, x ≤ i → i < sl A B k x → A[i.toNat]? = B[(i - k).toNat]? := by
  intro i h1 h2
  have := lcp_take (A.drop x.toNat) (B.drop (x - k).toNat) (i - x).toNat (by unfold sl at h2; omega)
  simp only [List.getElem?_drop] at this
  have e1 : x.toNat + (i - x).toNat = i.toNat := by omega
  have e2 : (x - k).toNat + (i - x).toNat = (i - k).toNat := by omega
  rwa [e1, e2] at this

/-- Where round d begins on diagonal k, out of what the round before it left. -/
def stepX (d : Nat) (g : Int → Int) (k : Int) : Int :=
  if k ≠ -(d : Int) ∧ (k = d ∨ g (k + 1) ≤ g (k - 1)) then g (k - 1) + 1 else g (k + 1)
theorem stepX_right (d : Nat) (g : Int → Int) (k : Int) (h : k ≠ -(d : Int)) : g (k - 1) + 1 ≤ stepX d g k := by
  unfold stepX; split <;> omega
theorem stepX_down (d : Nat) (g : Int → Int) (k : Int) (h : k ≠ (d : Int)) : g (k + 1) ≤ stepX d g k := by
  unfold stepX; split <;> omega

/-- What the array holds on diagonal k before round d. -/
def G (A B : List ByteArray) : Nat → Int → Int
  | 0, _ => 0
  | d + 1, k => sl A B k (stepX d (G A B d) k)

/-- The diagonals of round d. -/
def V (d : Nat) (k : Int) : Prop := -(d : Int) ≤ k ∧ k ≤ d ∧ (k + d) % 2 = 0

theorem G_lb (A B : List ByteArray) : ∀ (d : Nat) (k : Int), V d k → d + k ≤ 2 * G A B (d + 1) k
  | 0, k, h => by
    obtain ⟨h1, h2, h3⟩ := h
    obtain rfl : k = 0 := by omega
    have := sl_ge A B 0 (stepX 0 (G A B 0) 0)
    have e : stepX 0 (G A B 0) 0 = 0 := by simp [stepX, G]
    rw [e] at this
    show _ ≤ 2 * sl A B 0 (stepX 0 (G A B 0) 0)
    rw [e]; omega
  | d + 1, k, h => by
    obtain ⟨h1, h2, h3⟩ := h
    have hs := sl_ge A B k (stepX (d + 1) (G A B (d + 1)) k)
    show _ ≤ 2 * sl A B k (stepX (d + 1) (G A B (d + 1)) k)
    by_cases hk : k = -((d + 1 : Nat) : Int)
    · have := stepX_down (d + 1) (G A B (d + 1)) k (by omega)
      have ih := G_lb A B d (k + 1) ⟨by omega, by omega, by omega⟩
      omega
    · have := stepX_right (d + 1) (G A B (d + 1)) k hk
      have ih := G_lb A B d (k - 1) ⟨by omega, by omega, by omega⟩
      omega

theorem sl_ub (A B : List ByteArray) (k x : Int) : sl A B k x ≤ x ∨ sl A B k x ≤ A.length := by
  have h := (lcp_le (A.drop x.toNat) (B.drop (x - k).toNat)).1
  simp only [List.length_drop] at h
  unfold sl
  omega
theorem G_ub (A B : List ByteArray) : ∀ (d : Nat) (k : Int), G A B d k ≤ A.length + d
  | 0, k => by simp [G]
  | d + 1, k => by
    have h := sl_ub A B k (stepX d (G A B d) k)
    have h1 := G_ub A B d (k - 1)
    have h2 := G_ub A B d (k + 1)
    have h3 : stepX d (G A B d) k ≤ A.length + d + 1 := by unfold stepX; split <;> omega
    show sl A B k (stepX d (G A B d) k) ≤ _
    omega
theorem X_ub (A B : List ByteArray) (d : Nat) (k : Int) : stepX d (G A B d) k ≤ A.length + d + 1 := by
  have h1 := G_ub A B d (k - 1)
  have h2 := G_ub A B d (k + 1)
  unfold stepX; split <;> omega

/-- The start of a slide lies at or right of, and at or below, the origin. -/
theorem X_lb (A B : List ByteArray) (d : Nat) (k : Int) (h : V d k) : 0 ≤ stepX d (G A B d) k ∧ 0 ≤ stepX d (G A B d) k - k := by
  obtain ⟨h1, h2, h3⟩ := h
  cases d with
  | zero =>
    obtain rfl : k = 0 := by omega
    simp [stepX, G]
  | succ d =>
    by_cases hk : k = -((d + 1 : Nat) : Int)
    · have := stepX_down (d + 1) (G A B (d + 1)) k (by omega)
      have ih := G_lb A B d (k + 1) ⟨by omega, by omega, by omega⟩
      omega
    · have := stepX_right (d + 1) (G A B (d + 1)) k hk
      have ih := G_lb A B d (k - 1) ⟨by omega, by omega, by omega⟩
      omega

/-- The search ends at round d on diagonal k. -/
def Done (A B : List ByteArray) (d : Nat) (k : Int) : Prop := (A.length : Int) ≤ G A B (d + 1) k ∧ (B.length : Int) ≤ G A B (d + 1) k - k

def NotBefore (A B : List ByteArray) (d : Nat) : Prop := ∀ d' < d, ∀ k, V d' k → ¬ Done A B d' k
def First (A B : List ByteArray) (d : Nat) : Prop := (∃ k, V d k ∧ Done A B d k) ∧ NotBefore A B d

theorem first_unique {A B : List ByteArray} {d e : Nat} (h1 : First A B d) (h2 : First A B e) : d = e := by
  obtain ⟨⟨k, v, dn⟩, nb⟩ := h1
  obtain ⟨⟨k', v', dn'⟩, nb'⟩ := h2
  by_cases h : d < e
  · exact absurd dn (nb' d h k v)
  · by_cases h' : e < d
    · exact absurd dn' (nb e h' k' v')
    · omega

theorem done_last (A B : List ByteArray) : Done A B (A.length + B.length) ((A.length : Int) - B.length) ∧ V (A.length + B.length) ((A.length : Int) - B.length) := by
  have v : V (A.length + B.length) ((A.length : Int) - B.length) := ⟨by omega, by omega, by omega⟩
  have := G_lb A B _ _ v
  exact ⟨⟨by omega, by omega⟩, v⟩
theorem notBefore_le {A B : List ByteArray} {d : Nat} (h : NotBefore A B d) : d ≤ A.length + B.length := by
  by_cases hd : d ≤ A.length + B.length
  · exact hd
  · exact absurd (done_last A B).1 (h _ (by omega) _ (done_last A B).2)

/-! ### No overshoot -/
theorem over_y (A B : List ByteArray) : ∀ (d : Nat) (k : Int), V d k → (B.length : Int) < G A B (d + 1) k - k → 1 ≤ d ∧ k + 1 ≤ (d : Int) - 1 ∧ G A B (d + 1) k ≤ G A B d (k + 1)
  | 0, k, v, h => by
    obtain ⟨h1, h2, h3⟩ := v
    obtain rfl : k = 0 := by omega
    have hx := X_lb A B 0 0 ⟨h1, h2, h3⟩
    have e : stepX 0 (G A B 0) 0 = 0 := by simp [stepX, G]
    have hs := sl_in A B 0 _ hx.1 hx.2
    change _ < sl A B 0 (stepX 0 (G A B 0) 0) - 0 at h
    omega
  | d + 1, k, v, h => by
    have hx := X_lb A B (d + 1) k v
    obtain ⟨h1, h2, h3⟩ := v
    have hs := sl_in A B k _ hx.1 hx.2
    change _ < sl A B k (stepX (d + 1) (G A B (d + 1)) k) - k at h
    change _ ∧ _ ∧ sl A B k (stepX (d + 1) (G A B (d + 1)) k) ≤ _
    have hs' : sl A B k (stepX (d + 1) (G A B (d + 1)) k) = stepX (d + 1) (G A B (d + 1)) k := by omega
    rw [hs'] at h ⊢
    by_cases hc : k ≠ -((d + 1 : Nat) : Int) ∧ (k = (d + 1 : Nat) ∨ G A B (d + 1) (k + 1) ≤ G A B (d + 1) (k - 1))
    · have e : stepX (d + 1) (G A B (d + 1)) k = G A B (d + 1) (k - 1) + 1 := by unfold stepX; rw [if_pos hc]
      rw [e] at h ⊢
      have ih := over_y A B d (k - 1) ⟨by omega, by omega, by omega⟩ (by omega)
      cases d with
      | zero => omega
      | succ d =>
        have r := stepX_right (d + 1) (G A B (d + 1)) (k + 1) (by omega)
        have s := sl_ge A B (k + 1) (stepX (d + 1) (G A B (d + 1)) (k + 1))
        have g : G A B (d + 1 + 1) (k + 1) = sl A B (k + 1) (stepX (d + 1) (G A B (d + 1)) (k + 1)) := rfl
        have e2 : k - 1 + 1 = k := by omega
        have e3 : k + 1 - 1 = k := by omega
        rw [e2] at ih
        rw [e3] at r
        refine ⟨by omega, by omega, by omega⟩
    · have e : stepX (d + 1) (G A B (d + 1)) k = G A B (d + 1) (k + 1) := by unfold stepX; rw [if_neg hc]
      rw [e]
      refine ⟨by omega, ?_, by omega⟩
      by_cases hk : k = -((d + 1 : Nat) : Int)
      · omega
      · have : ¬ k = ((d + 1 : Nat) : Int) := fun h => hc ⟨hk, .inl h⟩
        omega

theorem over_x (A B : List ByteArray) : ∀ (d : Nat) (k : Int), V d k → (A.length : Int) < G A B (d + 1) k → 1 ≤ d ∧ -((d : Int) - 1) ≤ k - 1 ∧ G A B (d + 1) k - 1 ≤ G A B d (k - 1)
  | 0, k, v, h => by
    obtain ⟨h1, h2, h3⟩ := v
    obtain rfl : k = 0 := by omega
    have hx := X_lb A B 0 0 ⟨h1, h2, h3⟩
    have e : stepX 0 (G A B 0) 0 = 0 := by simp [stepX, G]
    have hs := sl_in A B 0 _ hx.1 hx.2
    change _ < sl A B 0 (stepX 0 (G A B 0) 0) at h
    omega
  | d + 1, k, v, h => by
    have hx := X_lb A B (d + 1) k v
    obtain ⟨h1, h2, h3⟩ := v
    have hs := sl_in A B k _ hx.1 hx.2
    change _ < sl A B k (stepX (d + 1) (G A B (d + 1)) k) at h
    change _ ∧ _ ∧ sl A B k (stepX (d + 1) (G A B (d + 1)) k) - 1 ≤ _
    have hs' : sl A B k (stepX (d + 1) (G A B (d + 1)) k) = stepX (d + 1) (G A B (d + 1)) k := by omega
    rw [hs'] at h ⊢
    by_cases hc : k ≠ -((d + 1 : Nat) : Int) ∧ (k = (d + 1 : Nat) ∨ G A B (d + 1) (k + 1) ≤ G A B (d + 1) (k - 1))
    · have e : stepX (d + 1) (G A B (d + 1)) k = G A B (d + 1) (k - 1) + 1 := by unfold stepX; rw [if_pos hc]
      rw [e]
      exact ⟨by omega, by omega, by omega⟩
    · have e : stepX (d + 1) (G A B (d + 1)) k = G A B (d + 1) (k + 1) := by unfold stepX; rw [if_neg hc]
      rw [e] at h ⊢
      have hk2 : k + 1 ≤ (d : Int) := by
        by_cases hk : k = -((d + 1 : Nat) : Int)
        · omega
        · have : ¬ k = ((d + 1 : Nat) : Int) := fun h => hc ⟨hk, .inl h⟩
          omega
      have ih := over_x A B d (k + 1) ⟨by omega, by omega, by omega⟩ h
      cases d with
      | zero => omega
      | succ d =>
        have r := stepX_down (d + 1) (G A B (d + 1)) (k - 1) (by omega)
        have s := sl_ge A B (k - 1) (stepX (d + 1) (G A B (d + 1)) (k - 1))
        have g : G A B (d + 1 + 1) (k - 1) = sl A B (k - 1) (stepX (d + 1) (G A B (d + 1)) (k - 1)) := rfl
        have e2 : k + 1 - 1 = k := by omega
        have e3 : k - 1 + 1 = k := by omega
        rw [e2] at ih
        rw [e3] at r
        refine ⟨by omega, by omega, by omega⟩

theorem exact_end {A B : List ByteArray} {d : Nat} {k : Int} (nb : NotBefore A B d) (v : V d k) (dn : Done A B d k) : G A B (d + 1) k = A.length ∧ k = (A.length : Int) - B.length := by
  obtain ⟨hx, hy⟩ := dn
  by_cases h1 : (B.length : Int) < G A B (d + 1) k - k
  · obtain ⟨a, b, c⟩ := over_y A B d k v h1
    obtain ⟨v1, v2, v3⟩ := v
    obtain ⟨e, rfl⟩ : ∃ e, d = e + 1 := ⟨d - 1, by omega⟩
    exact absurd ⟨by omega, by omega⟩ (nb e (by omega) (k + 1) ⟨by omega, by omega, by omega⟩)
  · by_cases h2 : (A.length : Int) < G A B (d + 1) k
    · obtain ⟨a, b, c⟩ := over_x A B d k v h2
      obtain ⟨v1, v2, v3⟩ := v
      obtain ⟨e, rfl⟩ : ∃ e, d = e + 1 := ⟨d - 1, by omega⟩
      exact absurd ⟨by omega, by omega⟩ (nb e (by omega) (k - 1) ⟨by omega, by omega, by omega⟩)
    · omega


/-! ### The way back -/
def right (A B : List ByteArray) (d : Nat) (k : Int) : Bool := decide (k ≠ -(d : Int) ∧ (k = d ∨ G A B d (k + 1) ≤ G A B d (k - 1)))
theorem stepX_of_right {A B : List ByteArray} {d : Nat} {k : Int} (h : right A B d k = true) : stepX d (G A B d) k = G A B d (k - 1) + 1 := by
  unfold right at h; unfold stepX; rw [if_pos (of_decide_eq_true h)]
theorem stepX_of_down {A B : List ByteArray} {d : Nat} {k : Int} (h : right A B d k = false) : stepX d (G A B d) k = G A B d (k + 1) := by
  unfold right at h; unfold stepX; rw [if_neg (of_decide_eq_false h)]

def keeps (A : List ByteArray) (x0 x : Int) : List (Int × ByteArray) := ((A.drop x0.toNat).take (x - x0).toNat).map fun l => (32, l)

/-- The script that leads to (x, y) with d edits, as the rounds found it. -/
def path (A B : List ByteArray) : Nat → Int → Int → List (Int × ByteArray)
  | 0, x, _ => keeps A 0 x
  | d + 1, x, y =>
    if right A B (d + 1) (x - y) then
      path A B d (G A B (d + 1) (x - y - 1)) (G A B (d + 1) (x - y - 1) - (x - y - 1)) ++ [(45, A.getD (G A B (d + 1) (x - y - 1)).toNat ByteArray.empty)] ++ keeps A (G A B (d + 1) (x - y - 1) + 1) x
    else
      path A B d (G A B (d + 1) (x - y + 1)) (G A B (d + 1) (x - y + 1) - (x - y + 1)) ++ [(43, B.getD (G A B (d + 1) (x - y + 1) - (x - y + 1)).toNat ByteArray.empty)] ++ keeps A (G A B (d + 1) (x - y + 1)) x

/-- (x, y) is the furthest point of round d on its diagonal, inside both lists. -/
def On (A B : List ByteArray) (d : Nat) (x y : Int) : Prop := V d (x - y) ∧ x = G A B (d + 1) (x - y) ∧ x ≤ A.length ∧ y ≤ B.length

theorem On.nonneg {A B : List ByteArray} {d : Nat} {x y : Int} (h : On A B d x y) : 0 ≤ x ∧ 0 ≤ y := by
  obtain ⟨v, hx, _, _⟩ := h
  have := G_lb A B d _ v
  obtain ⟨v1, v2, v3⟩ := v
  omega

theorem On.start {A B : List ByteArray} {d : Nat} {x y : Int} (h : On A B d x y) :
    0 ≤ stepX d (G A B d) (x - y) ∧ stepX d (G A B d) (x - y) ≤ x ∧ 0 ≤ stepX d (G A B d) (x - y) - (x - y) ∧ (∀ i : Int, stepX d (G A B d) (x - y) ≤ i → i < x → A[i.toNat]? = B[(i - (x - y)).toNat]?) := by
  obtain ⟨v, hx, _, _⟩ := h
  have h0 := X_lb A B d _ v
  have e : G A B (d + 1) (x - y) = sl A B (x - y) (stepX d (G A B d) (x - y)) := rfl
  have := sl_ge A B (x - y) (stepX d (G A B d) (x - y))
  refine ⟨h0.1, by omega, h0.2, fun i h1 h2 => sl_eq A B _ _ h0.1 h0.2 i h1 (by omega)⟩

theorem On.right {A B : List ByteArray} {d : Nat} {x y : Int} (h : On A B (d + 1) x y) (hr : right A B (d + 1) (x - y) = true) :
    On A B d (G A B (d + 1) (x - y - 1)) (G A B (d + 1) (x - y - 1) - (x - y - 1)) ∧ G A B (d + 1) (x - y - 1) + 1 ≤ x := by
  have hs := h.start
  rw [stepX_of_right hr] at hs
  obtain ⟨⟨v1, v2, v3⟩, hx, hN, hM⟩ := h
  have hr' := of_decide_eq_true hr
  have e : G A B (d + 1) (x - y - 1) - (G A B (d + 1) (x - y - 1) - (x - y - 1)) = x - y - 1 := by omega
  refine ⟨⟨?_, ?_, by omega, by omega⟩, by omega⟩
  · rw [e]; exact ⟨by omega, by omega, by omega⟩
  · rw [e]

theorem On.down {A B : List ByteArray} {d : Nat} {x y : Int} (h : On A B (d + 1) x y) (hr : Qxb6618347a.right A B (d + 1) (x - y) = false) :
    On A B d (G A B (d + 1) (x - y + 1)) (G A B (d + 1) (x - y + 1) - (x - y + 1)) ∧ G A B (d + 1) (x - y + 1) ≤ x := by
  have hs := h.start
  rw [stepX_of_down hr] at hs
  obtain ⟨⟨v1, v2, v3⟩, hx, hN, hM⟩ := h
  have hr' := of_decide_eq_false hr
  have hk : x - y + 1 ≤ d := by
    by_cases hk : x - y = -((d + 1 : Nat) : Int)
    · omega
    · have : ¬ x - y = ((d + 1 : Nat) : Int) := fun h => hr' ⟨hk, .inl h⟩
      omega
  have e : G A B (d + 1) (x - y + 1) - (G A B (d + 1) (x - y + 1) - (x - y + 1)) = x - y + 1 := by omega
  refine ⟨⟨?_, ?_, by omega, by omega⟩, by omega⟩
  · rw [e]; exact ⟨by omega, by omega, by omega⟩
  · rw [e]

theorem on_end {A B : List ByteArray} {d : Nat} (h : First A B d) : On A B d A.length B.length := by
  obtain ⟨⟨k, v, dn⟩, nb⟩ := h
  obtain ⟨h1, rfl⟩ := exact_end nb v dn
  exact ⟨v, h1.symm, by omega, by omega⟩

theorem keeps_self (A : List ByteArray) (x : Int) : keeps A x x = [] := by simp [keeps]
theorem keeps_cons (A : List ByteArray) (x0 x : Int) (h0 : 0 ≤ x0) (h1 : x0 < x) (h2 : x ≤ A.length) : keeps A x0 x = (32, A.getD x0.toNat ByteArray.empty) :: keeps A (x0 + 1) x := by
  unfold keeps
  have e1 : (x - x0).toNat = (x - (x0 + 1)).toNat + 1 := by omega
  have e2 : (x0 + 1).toNat = x0.toNat + 1 := by omega
  have hl : x0.toNat < A.length := by omega
  rw [e1, e2, List.drop_eq_getElem_cons hl, List.take_succ_cons, List.map_cons]
  simp [List.getD_eq_getElem?_getD, hl]
theorem keeps_length (A : List ByteArray) (x0 x : Int) : (keeps A x0 x).length ≤ (x - x0).toNat := by
  simp [keeps]; omega
theorem path_zero (A B : List ByteArray) (x y : Int) : path A B 0 x y = keeps A 0 x := rfl
theorem path_right {A B : List ByteArray} {d : Nat} {x y : Int} (h : right A B (d + 1) (x - y) = true) :
    path A B (d + 1) x y = path A B d (G A B (d + 1) (x - y - 1)) (G A B (d + 1) (x - y - 1) - (x - y - 1)) ++ (45, A.getD (G A B (d + 1) (x - y - 1)).toNat ByteArray.empty) :: keeps A (G A B (d + 1) (x - y - 1) + 1) x := by
  rw [path, h]; simp
theorem path_down {A B : List ByteArray} {d : Nat} {x y : Int} (h : right A B (d + 1) (x - y) = false) :
    path A B (d + 1) x y = path A B d (G A B (d + 1) (x - y + 1)) (G A B (d + 1) (x - y + 1) - (x - y + 1)) ++ (43, B.getD (G A B (d + 1) (x - y + 1) - (x - y + 1)).toNat ByteArray.empty) :: keeps A (G A B (d + 1) (x - y + 1)) x := by
  rw [path, h]; simp
theorem path_length (A B : List ByteArray) : ∀ (d : Nat) (x y : Int), On A B d x y → ((path A B d x y).length : Int) ≤ x + y
  | 0, x, y, h => by
    have := h.nonneg
    have := keeps_length A 0 x
    rw [path_zero]; omega
  | d + 1, x, y, h => by
    have n := h.nonneg
    cases hr : Qxb6618347a.right A B (d + 1) (x - y) with
    | true =>
      obtain ⟨o, hx⟩ := h.right hr
      have ih := path_length A B d _ _ o
      have := keeps_length A (G A B (d + 1) (x - y - 1) + 1) x
      rw [path_right hr]
      simp only [List.length_append, List.length_cons]
      omega
    | false =>
      obtain ⟨o, hx⟩ := h.down hr
      have ih := path_length A B d _ _ o
      have := keeps_length A (G A B (d + 1) (x - y + 1)) x
      rw [path_down hr]
      simp only [List.length_append, List.length_cons]
      omega

/-! ### A common beginning -/
theorem drop_pre (P A : List ByteArray) (x : Int) (h : 0 ≤ x) : (P ++ A).drop (x + P.length).toNat = A.drop x.toNat := by
  rw [List.drop_append, List.drop_eq_nil_of_le (by omega)]
  have : (x + P.length).toNat - P.length = x.toNat := by omega
  rw [this, List.nil_append]
theorem sl_pre (P A B : List ByteArray) (k x : Int) (hx : 0 ≤ x) (hy : 0 ≤ x - k) : sl (P ++ A) (P ++ B) k (x + P.length) = sl A B k x + P.length := by
  unfold sl
  have e : x + P.length - k = (x - k) + P.length := by omega
  rw [e, drop_pre _ _ _ hx, drop_pre _ _ _ hy]; omega

theorem G_pre (P A B : List ByteArray) : ∀ (d : Nat) (k : Int), V d k → G (P ++ A) (P ++ B) (d + 1) k = G A B (d + 1) k + P.length
  | 0, k, v => by
    obtain ⟨h1, h2, h3⟩ := v
    obtain rfl : k = 0 := by omega
    show sl (P ++ A) (P ++ B) 0 (stepX 0 _ 0) = sl A B 0 (stepX 0 _ 0) + _
    have e : ∀ A B : List ByteArray, stepX 0 (G A B 0) 0 = 0 := by intros; simp [stepX, G]
    rw [e, e]
    simp [sl, lcp_append]; omega
  | d + 1, k, v => by
    have hx := X_lb A B (d + 1) k v
    have v' := v
    obtain ⟨h1, h2, h3⟩ := v
    show sl (P ++ A) (P ++ B) k (stepX (d + 1) _ k) = sl A B k (stepX (d + 1) _ k) + _
    have e : stepX (d + 1) (G (P ++ A) (P ++ B) (d + 1)) k = stepX (d + 1) (G A B (d + 1)) k + P.length := by
      unfold stepX
      by_cases ha : k = -((d + 1 : Nat) : Int)
      · rw [if_neg (fun h => h.1 ha), if_neg (fun h => h.1 ha)]
        exact G_pre P A B d (k + 1) ⟨by omega, by omega, by omega⟩
      · have hl := G_pre P A B d (k - 1) ⟨by omega, by omega, by omega⟩
        by_cases hb : k = ((d + 1 : Nat) : Int)
        · rw [if_pos ⟨ha, .inl hb⟩, if_pos ⟨ha, .inl hb⟩]; omega
        · have hr := G_pre P A B d (k + 1) ⟨by omega, by omega, by omega⟩
          rw [hl, hr]
          by_cases hc : G A B (d + 1) (k + 1) ≤ G A B (d + 1) (k - 1)
          · rw [if_pos ⟨ha, .inr (by omega)⟩, if_pos ⟨ha, .inr hc⟩]; omega
          · rw [if_neg (fun h => by rcases h.2 with h | h; exact hb h; omega), if_neg (fun h => by rcases h.2 with h | h; exact hb h; omega)]
    rw [e, sl_pre P A B k _ hx.1 hx.2]

theorem right_pre (P A B : List ByteArray) (d : Nat) (k : Int) (v : V (d + 1) k) : right (P ++ A) (P ++ B) (d + 1) k = right A B (d + 1) k := by
  obtain ⟨h1, h2, h3⟩ := v
  unfold right
  by_cases ha : k = -((d + 1 : Nat) : Int)
  · simp [ha]
  · by_cases hb : k = ((d + 1 : Nat) : Int)
    · simp only [hb, true_or]
    · have hl := G_pre P A B d (k - 1) ⟨by omega, by omega, by omega⟩
      have hr := G_pre P A B d (k + 1) ⟨by omega, by omega, by omega⟩
      rw [hl, hr]
      congr 1
      simp only [eq_iff_iff]
      constructor
      · rintro ⟨p, q | q⟩
        · exact ⟨p, .inl q⟩
        · exact ⟨p, .inr (by omega)⟩
      · rintro ⟨p, q | q⟩
        · exact ⟨p, .inl q⟩
        · exact ⟨p, .inr (by omega)⟩

theorem done_pre (P A B : List ByteArray) (d : Nat) (k : Int) (v : V d k) : Done (P ++ A) (P ++ B) d k ↔ Done A B d k := by
  unfold Done
  rw [G_pre P A B d k v]
  simp only [List.length_append]
  constructor <;> (rintro ⟨a, b⟩; exact ⟨by omega, by omega⟩)
theorem first_pre (P A B : List ByteArray) (d : Nat) (h : First A B d) : First (P ++ A) (P ++ B) d := by
  obtain ⟨⟨k, v, dn⟩, nb⟩ := h
  exact ⟨⟨k, v, (done_pre P A B d k v).2 dn⟩, fun d' hd k v h => nb d' hd k v ((done_pre P A B d' k v).1 h)⟩

theorem keeps_pre (P A : List ByteArray) (x0 x : Int) (h : 0 ≤ x0) : keeps (P ++ A) (x0 + P.length) (x + P.length) = keeps A x0 x := by
  unfold keeps
  rw [drop_pre _ _ _ h]
  have : (x + P.length - (x0 + P.length)).toNat = (x - x0).toNat := by omega
  rw [this]
theorem getD_pre (P A : List ByteArray) (x : Int) (h : 0 ≤ x) : (P ++ A).getD (x + P.length).toNat ByteArray.empty = A.getD x.toNat ByteArray.empty := by
  have : (x + P.length).toNat = P.length + x.toNat := by omega
  simp only [List.getD_eq_getElem?_getD, this, List.getElem?_append_right (Nat.le_add_right _ _), Nat.add_sub_cancel_left]

theorem path_pre (P A B : List ByteArray) : ∀ (d : Nat) (x y : Int), On A B d x y → path (P ++ A) (P ++ B) d (x + P.length) (y + P.length) = P.map (fun l => (32, l)) ++ path A B d x y
  | 0, x, y, h => by
    have := h.nonneg
    have e : (x + (P.length : Int)).toNat = P.length + x.toNat := by omega
    simp only [path, keeps, Int.toNat_zero, List.drop_zero, Int.sub_zero, e, List.take_append, List.map_append]
    rw [List.take_of_length_le (by omega), Nat.add_sub_cancel_left]
  | d + 1, x, y, h => by
    have n := h.nonneg
    have ek : x + P.length - (y + P.length) = x - y := by omega
    unfold path
    rw [ek, right_pre P A B d _ h.1]
    cases hr : right A B (d + 1) (x - y) with
    | true =>
      obtain ⟨o, _⟩ := h.right hr
      have n' := o.nonneg
      have g := G_pre P A B d (x - y - 1) (by have := o.1; rwa [show G A B (d + 1) (x - y - 1) - (G A B (d + 1) (x - y - 1) - (x - y - 1)) = x - y - 1 by omega] at this)
      have ih := path_pre P A B d _ _ o
      simp only [if_true]
      rw [g, show G A B (d + 1) (x - y - 1) + P.length - (x - y - 1) = G A B (d + 1) (x - y - 1) - (x - y - 1) + P.length by omega, ih, getD_pre _ _ _ n'.1,
        show G A B (d + 1) (x - y - 1) + P.length + 1 = G A B (d + 1) (x - y - 1) + 1 + P.length by omega, keeps_pre _ _ _ _ (by omega)]
      simp
    | false =>
      obtain ⟨o, _⟩ := h.down hr
      have n' := o.nonneg
      have g := G_pre P A B d (x - y + 1) (by have := o.1; rwa [show G A B (d + 1) (x - y + 1) - (G A B (d + 1) (x - y + 1) - (x - y + 1)) = x - y + 1 by omega] at this)
      have ih := path_pre P A B d _ _ o
      simp only [Bool.false_eq_true, if_false]
      rw [g, show G A B (d + 1) (x - y + 1) + P.length - (x - y + 1) = G A B (d + 1) (x - y + 1) - (x - y + 1) + P.length by omega, ih, getD_pre _ _ _ n'.2,
        keeps_pre _ _ _ _ n'.1]
      simp

/-- What 'middle' hands out. -/
def Script (A B : List ByteArray) (E : List (Int × ByteArray)) : Prop := ∃ d, First A B d ∧ E = path A B d A.length B.length

theorem script_pre {P A B : List ByteArray} {E1 E2 : List (Int × ByteArray)} (h1 : Script (P ++ A) (P ++ B) E1) (h2 : Script A B E2) : E1 = P.map (fun l => (32, l)) ++ E2 := by
  obtain ⟨d, f, rfl⟩ := h2
  obtain ⟨d', f', rfl⟩ := h1
  obtain rfl := first_unique f' (first_pre P A B d f)
  rw [← path_pre P A B d' _ _ (on_end f)]
  simp only [List.length_append]
  congr 1 <;> omega


/-! ### One list is empty -/
theorem G_bare {A B : List ByteArray} (hE : A = [] ∨ B = []) : ∀ (d : Nat) (k : Int), V d k → 2 * G A B (d + 1) k = d + k := by
  have hsl : ∀ k x, sl A B k x = x := by
    intro k x
    unfold sl
    rcases hE with rfl | rfl
    · simp [lcp_nil_left]
    · simp [lcp_nil_right]
  intro d
  induction d with
  | zero =>
    rintro k ⟨h1, h2, h3⟩
    obtain rfl : k = 0 := by omega
    show 2 * sl A B 0 (stepX 0 _ 0) = _
    rw [hsl]
    simp [stepX, G]
  | succ d ih =>
    rintro k ⟨h1, h2, h3⟩
    show 2 * sl A B k (stepX (d + 1) _ k) = _
    rw [hsl]
    unfold stepX
    split
    · rename_i h
      have := ih (k - 1) ⟨by omega, by omega, by omega⟩
      omega
    · rename_i h
      have hk : k + 1 ≤ d := by
        by_cases hk : k = -((d + 1 : Nat) : Int)
        · omega
        · have : ¬ k = ((d + 1 : Nat) : Int) := fun h' => h ⟨hk, .inl h'⟩
          omega
      have := ih (k + 1) ⟨by omega, by omega, by omega⟩
      omega

theorem first_bare {A B : List ByteArray} (hE : A = [] ∨ B = []) : First A B (A.length + B.length) := by
  refine ⟨⟨_, (done_last A B).2, (done_last A B).1⟩, ?_⟩
  rintro d' hd k v ⟨h1, h2⟩
  have := G_bare hE d' k v
  omega

theorem path_ins (B : List ByteArray) : ∀ d : Nat, d ≤ B.length → path [] B d 0 d = (B.take d).map fun l => (43, l)
  | 0, _ => by simp [path, keeps]
  | d + 1, h => by
    have ih := path_ins B d (by omega)
    have g := G_bare (A := []) (B := B) (.inl rfl) d (-(d : Int)) ⟨by omega, by omega, by omega⟩
    have g0 : G [] B (d + 1) (-(d : Int)) = 0 := by omega
    have ek : (0 : Int) - ((d + 1 : Nat) : Int) + 1 = -(d : Int) := by omega
    have hr : right [] B (d + 1) ((0 : Int) - ((d + 1 : Nat) : Int)) = false := by
      unfold right
      exact decide_eq_false (fun h => h.1 (by omega))
    unfold path
    rw [hr, ek, g0]
    have e2 : (0 : Int) - -(d : Int) = d := by omega
    simp only [Bool.false_eq_true, if_false, e2, ih]
    have e3 : B.getD ((d : Int)).toNat ByteArray.empty = B[d]'(by omega) := by simp [List.getD_eq_getElem?_getD, show d < B.length by omega]
    rw [e3, List.take_succ_eq_append_getElem (by omega)]
    simp only [keeps, List.drop_nil, List.take_nil, List.map_nil, List.append_nil, List.map_append, List.map_cons]

theorem path_del (A : List ByteArray) : ∀ d : Nat, d ≤ A.length → path A [] d d 0 = (A.take d).map fun l => (45, l)
  | 0, _ => by simp [path, keeps]
  | d + 1, h => by
    have ih := path_del A d (by omega)
    have g := G_bare (A := A) (B := []) (.inr rfl) d (d : Int) ⟨by omega, by omega, by omega⟩
    have g0 : G A [] (d + 1) (d : Int) = d := by omega
    have ek : ((d + 1 : Nat) : Int) - 0 - 1 = (d : Int) := by omega
    have hr : right A [] (d + 1) (((d + 1 : Nat) : Int) - 0) = true := by
      unfold right
      exact decide_eq_true ⟨by omega, .inl (by omega)⟩
    unfold path
    rw [hr, ek, g0]
    have e2 : (d : Int) - (d : Int) = 0 := by omega
    simp only [if_true, e2, ih]
    have e3 : A.getD ((d : Int)).toNat ByteArray.empty = A[d]'(by omega) := by simp [List.getD_eq_getElem?_getD, show d < A.length by omega]
    rw [e3, List.take_succ_eq_append_getElem (by omega)]
    simp only [keeps, show ((d + 1 : Nat) : Int) - ((d : Int) + 1) = 0 from by omega, Int.toNat_zero, List.take_zero, List.map_nil, List.append_nil, List.map_append, List.map_cons]

theorem script_bare {A B : List ByteArray} (hE : A = [] ∨ B = []) : Script A B (A.map (fun l => (45, l)) ++ B.map (fun l => (43, l))) := by
  refine ⟨_, first_bare hE, ?_⟩
  rcases hE with rfl | rfl
  · have := path_ins B B.length (Nat.le_refl _)
    rw [List.take_of_length_le (Nat.le_refl _)] at this
    simpa using this.symm
  · have := path_del A A.length (Nat.le_refl _)
    rw [List.take_of_length_le (Nat.le_refl _)] at this
    simpa using this.symm

end Go.Proofs.Qxb6618347a
