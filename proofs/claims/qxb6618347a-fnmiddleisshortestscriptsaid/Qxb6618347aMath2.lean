/-
  Plain mathematics: the longest common subsequence by rows, and that the greedy search's script is a shortest one.
-/
import Derived.Test.Qxb6618347aMath
namespace Go.Proofs.Qxb6618347a

/-- One row of the dynamic programme. -/
def Lnext (A B : List ByteArray) (i : Nat) (prev : Nat → Nat) : Nat → Nat
  | 0 => 0
  | j + 1 => if A[i]? = B[j]? then prev j + 1 else max (prev (j + 1)) (Lnext A B i prev j)
def LL (A B : List ByteArray) : Nat → Nat → Nat
  | 0 => fun _ => 0
  | i + 1 => Lnext A B i (LL A B i)
theorem LL_zero_left (A B : List ByteArray) (j : Nat) : LL A B 0 j = 0 := rfl
theorem LL_zero_right (A B : List ByteArray) : ∀ i, LL A B i 0 = 0
  | 0 => rfl
  | _ + 1 => rfl
theorem LL_eq {A B : List ByteArray} {i j : Nat} (h : A[i]? = B[j]?) : LL A B (i + 1) (j + 1) = LL A B i j + 1 := by
  show Lnext A B i (LL A B i) (j + 1) = _
  rw [Lnext, if_pos h]
theorem LL_ne {A B : List ByteArray} {i j : Nat} (h : ¬ A[i]? = B[j]?) : LL A B (i + 1) (j + 1) = max (LL A B i (j + 1)) (LL A B (i + 1) j) := by
  show Lnext A B i (LL A B i) (j + 1) = _
  rw [Lnext, if_neg h]; rfl

theorem LL_mono (A B : List ByteArray) : ∀ i, (∀ j, LL A B i j ≤ LL A B i (j + 1) ∧ LL A B i (j + 1) ≤ LL A B i j + 1) ∧ ∀ j, LL A B i j ≤ LL A B (i + 1) j ∧ LL A B (i + 1) j ≤ LL A B i j + 1 := by
  have next : ∀ i, (∀ j, LL A B i j ≤ LL A B i (j + 1) ∧ LL A B i (j + 1) ≤ LL A B i j + 1) → ∀ j, LL A B i j ≤ LL A B (i + 1) j ∧ LL A B (i + 1) j ≤ LL A B i j + 1 := by
    intro i h j
    induction j with
    | zero => rw [LL_zero_right, LL_zero_right]; omega
    | succ j ih =>
      have h1 := h j
      by_cases e : A[i]? = B[j]?
      · rw [LL_eq e]; omega
      · rw [LL_ne e]; omega
  intro i
  induction i with
  | zero =>
    have h0 : ∀ j, LL A B 0 j ≤ LL A B 0 (j + 1) ∧ LL A B 0 (j + 1) ≤ LL A B 0 j + 1 := fun j => by rw [LL_zero_left, LL_zero_left]; omega
    exact ⟨h0, next 0 h0⟩
  | succ i ih =>
    have h1 : ∀ j, LL A B (i + 1) j ≤ LL A B (i + 1) (j + 1) ∧ LL A B (i + 1) (j + 1) ≤ LL A B (i + 1) j + 1 := by
      intro j
      have a := ih.1 j
      have b := ih.2 j
      have c := ih.2 (j + 1)
      by_cases e : A[i]? = B[j]?
      · rw [LL_eq e]; omega
      · rw [LL_ne e]; omega
    exact ⟨h1, next _ h1⟩
theorem LL_le (A B : List ByteArray) : ∀ i j, LL A B i j ≤ i ∧ LL A B i j ≤ j := by
  intro i j
  constructor
  · induction i with
    | zero => rw [LL_zero_left]; omega
    | succ i ih => have := ((LL_mono A B i).2 j).2; omega
  · induction j with
    | zero => rw [LL_zero_right]; omega
    | succ j ih => have := ((LL_mono A B i).1 j).2; omega

/-- No more edits are needed than the dynamic programme says. -/
theorem reach (A B : List ByteArray) : ∀ n i j : Nat, i + j ≤ n → i ≤ A.length → j ≤ B.length → (i : Int) ≤ G A B (i + j - 2 * LL A B i j + 1) ((i : Int) - j) := by
  intro n
  induction n with
  | zero =>
    intro i j h _ _
    obtain rfl : i = 0 := by omega
    obtain rfl : j = 0 := by omega
    have := G_lb A B 0 0 ⟨by omega, by omega, by omega⟩
    rw [LL_zero_left]
    simp only [Nat.add_zero, Nat.mul_zero, Nat.sub_zero, Nat.zero_add] at this ⊢
    rw [show ((0 : Nat) : Int) - ((0 : Nat) : Int) = 0 from rfl]
    omega
  | succ n ih =>
    intro i j h hi hj
    match i, j with
    | 0, j =>
      have := G_lb A B j (-(j : Int)) ⟨by omega, by omega, by omega⟩
      rw [LL_zero_left]
      simp only [Nat.mul_zero, Nat.sub_zero, Nat.zero_add]
      rw [show ((0 : Nat) : Int) - (j : Int) = -(j : Int) by omega]
      omega
    | i + 1, 0 =>
      have := G_lb A B (i + 1) ((i + 1 : Nat) : Int) ⟨by omega, by omega, by omega⟩
      rw [LL_zero_right]
      simp only [Nat.mul_zero, Nat.sub_zero, Nat.add_zero]
      rw [show ((i + 1 : Nat) : Int) - ((0 : Nat) : Int) = ((i + 1 : Nat) : Int) by omega]
      omega
    | i + 1, j + 1 =>
      by_cases e : A[i]? = B[j]?
      · have h1 := ih i j (by omega) (by omega) (by omega)
        have hl := LL_le A B i j
        rw [LL_eq e, show i + 1 + (j + 1) - 2 * (LL A B i j + 1) = i + j - 2 * LL A B i j by omega, show ((i + 1 : Nat) : Int) - ((j + 1 : Nat) : Int) = (i : Int) - j by omega]
        have v : V (i + j - 2 * LL A B i j) ((i : Int) - j) := ⟨by omega, by omega, by omega⟩
        have hx := X_lb A B _ _ v
        have hs := sl_stop A B ((i : Int) - j) _ hx.1 hx.2
        have hg : G A B (i + j - 2 * LL A B i j + 1) ((i : Int) - j) = sl A B ((i : Int) - j) (stepX (i + j - 2 * LL A B i j) (G A B (i + j - 2 * LL A B i j)) ((i : Int) - j)) := rfl
        rw [← hg] at hs
        by_cases hq : G A B (i + j - 2 * LL A B i j + 1) ((i : Int) - j) = i
        · exfalso
          apply hs
          rw [hq]
          refine ⟨by omega, by omega, ?_⟩
          rw [show (i : Int) - ((i : Int) - j) = j by omega]
          simpa using e
        · omega
      · rw [LL_ne e]
        by_cases hm : LL A B (i + 1) j ≤ LL A B i (j + 1)
        · have h1 := ih i (j + 1) (by omega) (by omega) hj
          have hl := LL_le A B i (j + 1)
          rw [Nat.max_eq_left hm, show i + 1 + (j + 1) - 2 * LL A B i (j + 1) = i + (j + 1) - 2 * LL A B i (j + 1) + 1 by omega]
          generalize hd : i + (j + 1) - 2 * LL A B i (j + 1) = d at h1 ⊢
          have hk : ((i + 1 : Nat) : Int) - ((j + 1 : Nat) : Int) - 1 = (i : Int) - ((j + 1 : Nat) : Int) := by omega
          have hs := stepX_right (d + 1) (G A B (d + 1)) (((i + 1 : Nat) : Int) - ((j + 1 : Nat) : Int)) (by omega)
          have hg := sl_ge A B (((i + 1 : Nat) : Int) - ((j + 1 : Nat) : Int)) (stepX (d + 1) (G A B (d + 1)) (((i + 1 : Nat) : Int) - ((j + 1 : Nat) : Int)))
          rw [hk] at hs
          show _ ≤ sl A B (((i + 1 : Nat) : Int) - ((j + 1 : Nat) : Int)) (stepX (d + 1) (G A B (d + 1)) (((i + 1 : Nat) : Int) - ((j + 1 : Nat) : Int)))
          omega
        · have h1 := ih (i + 1) j (by omega) hi (by omega)
          have hl := LL_le A B (i + 1) j
          rw [Nat.max_eq_right (by omega), show i + 1 + (j + 1) - 2 * LL A B (i + 1) j = i + 1 + j - 2 * LL A B (i + 1) j + 1 by omega]
          generalize hd : i + 1 + j - 2 * LL A B (i + 1) j = d at h1 ⊢
          have hk : ((i + 1 : Nat) : Int) - ((j + 1 : Nat) : Int) + 1 = ((i + 1 : Nat) : Int) - (j : Int) := by omega
          have hs := stepX_down (d + 1) (G A B (d + 1)) (((i + 1 : Nat) : Int) - ((j + 1 : Nat) : Int)) (by omega)
          have hg := sl_ge A B (((i + 1 : Nat) : Int) - ((j + 1 : Nat) : Int)) (stepX (d + 1) (G A B (d + 1)) (((i + 1 : Nat) : Int) - ((j + 1 : Nat) : Int)))
          rw [hk] at hs
          show _ ≤ sl A B (((i + 1 : Nat) : Int) - ((j + 1 : Nat) : Int)) (stepX (d + 1) (G A B (d + 1)) (((i + 1 : Nat) : Int) - ((j + 1 : Nat) : Int)))
          omega

theorem slide (A B : List ByteArray) (x y : Nat) : ∀ c, (∀ i, i < c → A[x + i]? = B[y + i]?) → LL A B x y + c ≤ LL A B (x + c) (y + c)
  | 0, _ => by simp
  | c + 1, h => by
    have ih := slide A B x y c (fun i hi => h i (by omega))
    have e := LL_eq (h c (by omega))
    rw [show x + (c + 1) = x + c + 1 by omega, show y + (c + 1) = y + c + 1 by omega]
    omega

/-- No fewer edits serve. -/
theorem dist (A B : List ByteArray) : ∀ (d : Nat) (x y : Int), On A B d x y → x + y ≤ d + 2 * (LL A B x.toNat y.toNat : Int) := by
  have sl1 : ∀ (d : Nat) (x y : Int), On A B d x y → ∀ x0 : Int, x0 = stepX d (G A B d) (x - y) → (LL A B x0.toNat (x0 - (x - y)).toNat : Int) + (x - x0) ≤ LL A B x.toNat y.toNat := by
    intro d x y h x0 e
    have hs := h.start
    rw [← e] at hs
    obtain ⟨s1, s2, s3, s4⟩ := hs
    have := slide A B x0.toNat (x0 - (x - y)).toNat (x - x0).toNat (fun i hi => by
      have := s4 (x0 + i) (by omega) (by omega)
      rw [show (x0 + (i : Int)).toNat = x0.toNat + i by omega, show (x0 + (i : Int) - (x - y)).toNat = (x0 - (x - y)).toNat + i by omega] at this
      exact this)
    rw [show x0.toNat + (x - x0).toNat = x.toNat by omega, show (x0 - (x - y)).toNat + (x - x0).toNat = y.toNat by omega] at this
    omega
  intro d
  induction d with
  | zero =>
    intro x y h
    have hv := h.1
    obtain ⟨v1, v2, v3⟩ := hv
    have hn := h.nonneg
    have e : stepX 0 (G A B 0) (x - y) = 0 := by
      rw [show x - y = 0 by omega]; simp [stepX, G]
    have := sl1 0 x y h 0 e.symm
    have := LL_zero_left A B ((0 : Int) - (x - y)).toNat
    omega
  | succ d ih =>
    intro x y h
    have hn := h.nonneg
    cases hr : right A B (d + 1) (x - y) with
    | true =>
      obtain ⟨o, ho⟩ := h.right hr
      have n := o.nonneg
      have h1 := ih _ _ o
      have h2 := sl1 (d + 1) x y h _ (stepX_of_right hr).symm
      generalize G A B (d + 1) (x - y - 1) = px at o ho n h1 h2
      have hm := ((LL_mono A B px.toNat).2 (px - (x - y - 1)).toNat).1
      rw [show (px + 1).toNat = px.toNat + 1 by omega, show (px + 1 - (x - y)).toNat = (px - (x - y - 1)).toNat by omega] at h2
      omega
    | false =>
      obtain ⟨o, ho⟩ := h.down hr
      have n := o.nonneg
      have h1 := ih _ _ o
      have h2 := sl1 (d + 1) x y h _ (stepX_of_down hr).symm
      generalize G A B (d + 1) (x - y + 1) = px at o ho n h1 h2
      have hm := ((LL_mono A B px.toNat).1 (px - (x - y + 1)).toNat).1
      rw [show (px - (x - y)).toNat = (px - (x - y + 1)).toNat + 1 by omega] at h2
      omega

theorem first_lcs {A B : List ByteArray} {d : Nat} (h : First A B d) : d + 2 * LL A B A.length B.length = A.length + B.length := by
  have h1 := dist A B d _ _ (on_end h)
  simp only [Int.toNat_natCast] at h1
  have h2 := reach A B _ A.length B.length (Nat.le_refl _) (Nat.le_refl _) (Nat.le_refl _)
  have hl := LL_le A B A.length B.length
  generalize hd : A.length + B.length - 2 * LL A B A.length B.length = e at h2
  have hle : d ≤ e := by
    by_cases hc : d ≤ e
    · exact hc
    · exfalso
      exact h.2 e (by omega) ((A.length : Int) - B.length) ⟨by omega, by omega, by omega⟩ ⟨h2, by omega⟩
  omega

/-! ### The checker -/
def ck1 (A B : List ByteArray) (e : Int × ByteArray) (s : Nat × Nat × Nat) : Option (Nat × Nat × Nat) :=
  if e.1 = 32 then (if s.1 < A.length ∧ s.2.1 < B.length ∧ e.2 = A.getD s.1 ByteArray.empty ∧ e.2 = B.getD s.2.1 ByteArray.empty then some (s.1 + 1, s.2.1 + 1, s.2.2) else none)
  else if e.1 = 45 then (if s.1 < A.length ∧ e.2 = A.getD s.1 ByteArray.empty then some (s.1 + 1, s.2.1, s.2.2 + 1) else none)
  else if e.1 = 43 then (if s.2.1 < B.length ∧ e.2 = B.getD s.2.1 ByteArray.empty then some (s.1, s.2.1 + 1, s.2.2 + 1) else none)
  else none
def ck (A B : List ByteArray) : List (Int × ByteArray) → Nat × Nat × Nat → Option (Nat × Nat × Nat)
  | [], s => some s
  | e :: E, s => (ck1 A B e s).bind (ck A B E)
theorem ck_append (A B : List ByteArray) : ∀ (E F : List (Int × ByteArray)) (s : Nat × Nat × Nat), ck A B (E ++ F) s = (ck A B E s).bind (ck A B F)
  | [], F, s => rfl
  | e :: E, F, s => by
    show (ck1 A B e s).bind (ck A B (E ++ F)) = ((ck1 A B e s).bind (ck A B E)).bind (ck A B F)
    cases ck1 A B e s with
    | none => rfl
    | some t => exact ck_append A B E F t
theorem ck_keeps (A B : List ByteArray) : ∀ (n x y c : Nat), (∀ i, i < n → x + i < A.length ∧ y + i < B.length ∧ A[x + i]? = B[y + i]?) → ck A B (keeps A x (x + n)) (x, y, c) = some (x + n, y + n, c)
  | 0, x, y, c, _ => by simp [keeps, ck]
  | n + 1, x, y, c, h => by
    have h0 := h 0 (by omega)
    have ih := ck_keeps A B n (x + 1) (y + 1) c (fun i hi => by
      have := h (i + 1) (by omega)
      rw [show x + 1 + i = x + (i + 1) by omega, show y + 1 + i = y + (i + 1) by omega]
      exact this)
    have hl : ∀ i, i < n + 1 → x + i < A.length := fun i hi => (h i hi).1
    have hn := hl n (by omega)
    rw [keeps_cons A x _ (by omega) (by omega) (by omega)]
    have e1 : ck1 A B (32, A.getD (x : Int).toNat ByteArray.empty) (x, y, c) = some (x + 1, y + 1, c) := by
      simp only [Nat.add_zero] at h0
      have hc : x < A.length ∧ y < B.length ∧ A.getD (x : Int).toNat ByteArray.empty = A.getD x ByteArray.empty ∧ A.getD (x : Int).toNat ByteArray.empty = B.getD y ByteArray.empty :=
        ⟨h0.1, h0.2.1, by simp, by simp [List.getD_eq_getElem?_getD, h0.2.2]⟩
      unfold ck1
      rw [if_pos rfl, if_pos hc]
    show (ck1 A B _ _).bind (ck A B _) = _
    rw [e1]
    show ck A B _ (x + 1, y + 1, c) = _
    have e2 : (x : Int) + ((n + 1 : Nat) : Int) = ((x + 1 : Nat) : Int) + (n : Int) := by omega
    have e3 : (x : Int) + 1 = ((x + 1 : Nat) : Int) := by omega
    rw [e2, e3, ih, show x + (n + 1) = x + 1 + n by omega, show y + (n + 1) = y + 1 + n by omega]

theorem path_ck (A B : List ByteArray) : ∀ (d : Nat) (x y : Int), On A B d x y → ck A B (path A B d x y) (0, 0, 0) = some (x.toNat, y.toNat, d) := by
  have kp : ∀ (d : Nat) (x y : Int), On A B d x y → ∀ (x0 : Int) (c : Nat), x0 = stepX d (G A B d) (x - y) → ck A B (keeps A x0 x) (x0.toNat, (x0 - (x - y)).toNat, c) = some (x.toNat, y.toNat, c) := by
    intro d x y h x0 c e
    have hs := h.start
    rw [← e] at hs
    obtain ⟨s1, s2, s3, s4⟩ := hs
    obtain ⟨_, _, hN, hM⟩ := h
    have := ck_keeps A B (x - x0).toNat x0.toNat (x0 - (x - y)).toNat c (fun i hi => by
      have := s4 (x0 + i) (by omega) (by omega)
      rw [show (x0 + (i : Int)).toNat = x0.toNat + i by omega, show (x0 + (i : Int) - (x - y)).toNat = (x0 - (x - y)).toNat + i by omega] at this
      exact ⟨by omega, by omega, this⟩)
    rw [show ((x0.toNat : Nat) : Int) = x0 by omega, show x0 + ((x - x0).toNat : Int) = x by omega, show x0.toNat + (x - x0).toNat = x.toNat by omega, show (x0 - (x - y)).toNat + (x - x0).toNat = y.toNat by omega] at this
    exact this
  intro d
  induction d with
  | zero =>
    intro x y h
    have e : stepX 0 (G A B 0) (x - y) = 0 := by
      obtain ⟨v1, v2, v3⟩ := h.1
      rw [show x - y = 0 by omega]; simp [stepX, G]
    have := kp 0 x y h 0 0 e.symm
    have hxy : (0 : Int) - (x - y) = 0 := by obtain ⟨v1, v2, v3⟩ := h.1; omega
    rw [hxy] at this
    exact this
  | succ d ih =>
    intro x y h
    cases hr : right A B (d + 1) (x - y) with
    | true =>
      obtain ⟨o, ho⟩ := h.right hr
      have n := o.nonneg
      have h1 := ih _ _ o
      have h2 := kp (d + 1) x y h _ (d + 1) (stepX_of_right hr).symm
      rw [path_right hr, ck_append, h1]
      obtain ⟨_, _, hN, _⟩ := h
      generalize G A B (d + 1) (x - y - 1) = px at o ho n h2 ⊢
      have e1 : ck1 A B (45, A.getD px.toNat ByteArray.empty) (px.toNat, (px - (x - y - 1)).toNat, d) = some (px.toNat + 1, (px - (x - y - 1)).toNat, d + 1) := by
        unfold ck1
        rw [if_neg (by show ¬ (45 : Int) = 32; decide), if_pos rfl, if_pos ⟨by show px.toNat < _; omega, rfl⟩]
      show (ck1 A B _ _).bind (ck A B _) = _
      rw [e1, ← h2, show (px + 1).toNat = px.toNat + 1 by omega, show (px + 1 - (x - y)).toNat = (px - (x - y - 1)).toNat by omega]
      rfl
    | false =>
      obtain ⟨o, ho⟩ := h.down hr
      have n := o.nonneg
      have h1 := ih _ _ o
      have h2 := kp (d + 1) x y h _ (d + 1) (stepX_of_down hr).symm
      rw [path_down hr, ck_append, h1]
      obtain ⟨_, _, _, hM⟩ := h
      generalize G A B (d + 1) (x - y + 1) = px at o ho n h2 ⊢
      have e1 : ck1 A B (43, B.getD (px - (x - y + 1)).toNat ByteArray.empty) (px.toNat, (px - (x - y + 1)).toNat, d) = some (px.toNat, (px - (x - y + 1)).toNat + 1, d + 1) := by
        unfold ck1
        rw [if_neg (by show ¬ (43 : Int) = 32; decide), if_neg (by show ¬ (43 : Int) = 45; decide), if_pos rfl, if_pos ⟨by show (px - (x - y + 1)).toNat < _; omega, rfl⟩]
      show (ck1 A B _ _).bind (ck A B _) = _
      rw [e1, ← h2, show (px - (x - y)).toNat = (px - (x - y + 1)).toNat + 1 by omega]
      rfl

theorem script_ck {A B : List ByteArray} {E : List (Int × ByteArray)} (h : Script A B E) : ck A B E (0, 0, 0) = some (A.length, B.length, A.length + B.length - 2 * LL A B A.length B.length) := by
  obtain ⟨d, hF, rfl⟩ := h
  rw [path_ck A B d _ _ (on_end hF)]
  have := first_lcs hF
  simp only [Int.toNat_natCast]
  congr 3
  omega

theorem ck_step {A B : List ByteArray} {E : List (Int × ByteArray)} {e i j c : Nat} {T : Nat × Nat × Nat} (h : ck A B (E.drop e) (i, j, c) = some T) (he : e < E.length) :
    ∃ k l, E[e]? = some (k, l) ∧ ((k = 32 ∧ i < A.length ∧ j < B.length ∧ l = A.getD i ByteArray.empty ∧ l = B.getD j ByteArray.empty ∧ ck A B (E.drop (e + 1)) (i + 1, j + 1, c) = some T) ∨
      (k = 45 ∧ i < A.length ∧ l = A.getD i ByteArray.empty ∧ ck A B (E.drop (e + 1)) (i + 1, j, c + 1) = some T) ∨
      (k = 43 ∧ j < B.length ∧ l = B.getD j ByteArray.empty ∧ ck A B (E.drop (e + 1)) (i, j + 1, c + 1) = some T)) := by
  rw [List.drop_eq_getElem_cons he] at h
  change (ck1 A B _ _).bind (ck A B _) = _ at h
  refine ⟨E[e].1, E[e].2, by simp [he], ?_⟩
  unfold ck1 at h
  split at h
  · rename_i hk
    split at h
    · rename_i hc
      exact .inl ⟨hk, hc.1, hc.2.1, hc.2.2.1, hc.2.2.2, h⟩
    · simp at h
  · split at h
    · rename_i hk
      split at h
      · rename_i hc
        exact .inr (.inl ⟨hk, hc.1, hc.2, h⟩)
      · simp at h
    · split at h
      · rename_i hk
        split at h
        · rename_i hc
          exact .inr (.inr ⟨hk, hc.1, hc.2, h⟩)
        · simp at h
      · simp at h
theorem ck_end {A B : List ByteArray} {E : List (Int × ByteArray)} {e i j c : Nat} {T : Nat × Nat × Nat} (h : ck A B (E.drop e) (i, j, c) = some T) (he : E.length ≤ e) : (i, j, c) = T := by
  rw [List.drop_eq_nil_of_le he] at h
  simpa [ck] using h

end Go.Proofs.Qxb6618347a
