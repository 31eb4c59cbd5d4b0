/-
  The walk of 'backtrack' (11).
-/
import Derived.Test.Qxb6618347aBase
namespace Go.Proofs.Qxb6618347a
open Go.RowKit

/-- The diagonals that round d reads. -/
def U (d : Nat) (k : Int) : Prop := (d = 0 ∧ k = 1) ∨ ∃ e, d = e + 1 ∧ V e k

/-- What the trace holds: for each round the part of v that it read. -/
def Trace (A B : List ByteArray) (D gt ge : Nat) (w : World) : Prop :=
  gt ≠ ge ∧ ∀ d, d ≤ D → ∃ g c, g ≠ ge ∧ w.cell? ⟨gt, d, none⟩ = some (.slice (some ⟨g, 0, none⟩) (2 * d + 3) c) ∧ ∀ k, U d k → w.cell? ⟨g, (k + d + 1).toNat, none⟩ = some (.int .i64 (G A B d k))

theorem Trace.grown {A B : List ByteArray} {D gt ge : Nat} {w w' : World} (h : Trace A B D gt ge w) (hg : w.grownBy w' (some ge)) : Trace A B D gt ge w' := by
  obtain ⟨h1, h2⟩ := h
  refine ⟨h1, fun d hd => ?_⟩
  obtain ⟨g, c, h3, h4, h5⟩ := h2 d hd
  exact ⟨g, c, h3, hg.cell h4 (by simpa using h1), fun k hk => hg.cell (h5 k hk) (by simpa using h3)⟩

theorem grown_trans {a b c : World} {row : Option Nat} (h : a.grownBy b row) (k : b.grownBy c row) : a.grownBy c row :=
  ⟨k.os.trans h.os, k.tape.trans h.tape, k.output.trans h.output, Nat.le_trans h.size k.size, fun i hi hr => (k.block i (Nat.lt_of_lt_of_le hi h.size) hr).trans (h.block i hi hr)⟩
theorem grown_drewN {a b : World} {row : Option Nat} (h : a.grownBy b row) (n : Nat) : a.grownBy (b.drewN n) row := ⟨h.os, h.tape, h.output, h.size, h.block⟩

theorem back_down {A B : List ByteArray} {d : Nat} {X Y : Int} (hd : 1 ≤ d) (h : On A B d X Y) (hr : right A B d (X - Y) = false) :
    ∃ px, G A B d (X - Y + 1) = px ∧ U d (X - Y + 1) ∧ 0 ≤ px ∧ px ≤ X ∧ 0 ≤ px - (X - Y + 1) ∧ On A B (d - 1) px (px - (X - Y + 1)) ∧
      path A B d X Y = path A B (d - 1) px (px - (X - Y + 1)) ++ (43, B.getD (px - (X - Y + 1)).toNat ByteArray.empty) :: keeps A px X := by
  obtain ⟨e, rfl⟩ : ∃ e, d = e + 1 := ⟨d - 1, by omega⟩
  obtain ⟨o, ho⟩ := h.down hr
  have n := o.nonneg
  have v := o.1
  rw [show G A B (e + 1) (X - Y + 1) - (G A B (e + 1) (X - Y + 1) - (X - Y + 1)) = X - Y + 1 by omega] at v
  exact ⟨_, rfl, .inr ⟨e, rfl, v⟩, n.1, ho, n.2, o, path_down hr⟩
theorem back_right {A B : List ByteArray} {d : Nat} {X Y : Int} (hd : 1 ≤ d) (h : On A B d X Y) (hr : right A B d (X - Y) = true) :
    ∃ px, G A B d (X - Y - 1) = px ∧ U d (X - Y - 1) ∧ 0 ≤ px ∧ px + 1 ≤ X ∧ 0 ≤ px - (X - Y - 1) ∧ On A B (d - 1) px (px - (X - Y - 1)) ∧
      path A B d X Y = path A B (d - 1) px (px - (X - Y - 1)) ++ (45, A.getD px.toNat ByteArray.empty) :: keeps A (px + 1) X := by
  obtain ⟨e, rfl⟩ : ∃ e, d = e + 1 := ⟨d - 1, by omega⟩
  obtain ⟨o, ho⟩ := h.right hr
  have n := o.nonneg
  have v := o.1
  rw [show G A B (e + 1) (X - Y - 1) - (G A B (e + 1) (X - Y - 1) - (X - Y - 1)) = X - Y - 1 by omega] at v
  exact ⟨_, rfl, .inr ⟨e, rfl, v⟩, n.1, ho, n.2, o, path_right hr⟩

theorem two_new (w : World) (a b : Value) (t : TypeId) : ∀ j u, [a, b][j]? = some u → (w.alloc (.cells #[a, b] t)).cell? ((⟨w.heap.size, 0, none⟩ : Addr).add j) = some u := by
  intro j u h
  match j, h with
  | 0, h => simp at h; subst h; simp [Addr.add]
  | 1, h => simp at h; subst h; simp [Addr.add]
theorem two_one (k : Int) (s : ByteArray) : ∀ u ∈ [Value.int .u8 k, .string s], u.oneCell' = true := by
  intro u h
  simp at h
  rcases h with rfl | rfl <;> rfl
theorem ecells_snoc (rest : List (Int × ByteArray)) (k : Int) (s : ByteArray) : ecells rest.reverse ++ [.int .u8 k, .string s] = ecells ((k, s) :: rest).reverse := by
  rw [List.reverse_cons, ecells_append, ecells_one]

theorem keeps_len {A : List ByteArray} {x0 x : Int} (h0 : 0 ≤ x0) (h1 : x0 ≤ x) (h2 : x ≤ A.length) : (keeps A x0 x).length = (x - x0).toNat := by
  simp [keeps]; omega
theorem inner_step {A : List ByteArray} {X' X : Int} {rest rest' : List (Int × ByteArray)} {s : ByteArray} (h3 : rest' = keeps A X' X ++ rest) (h0 : 0 < X') (h1 : X' ≤ X) (h2 : X ≤ A.length)
    (hs : A.getD (X' - 1).toNat ByteArray.empty = s) : (32, s) :: rest' = keeps A (X' - 1) X ++ rest := by
  rw [keeps_cons A (X' - 1) X (by omega) (by omega) h2, hs, h3, show X' - 1 + 1 = X' by omega]; rfl
theorem outer_step {A : List ByteArray} {X' x0 X : Int} {rest rest' T Pd F : List (Int × ByteArray)} {ed : Int × ByteArray} (hP : T = Pd ++ rest) (hQ : Pd = F ++ ed :: keeps A x0 X) (h3 : rest' = keeps A X' X ++ rest) (hx : X' = x0) :
    T = F ++ (ed :: rest') := by
  subst hx; rw [hP, hQ, h3]; simp
theorem outer_len {A : List ByteArray} {x0 X : Int} {rest T Pd F : List (Int × ByteArray)} {ed : Int × ByteArray} {ce : Nat} (hP : T = Pd ++ rest) (hQ : Pd = F ++ ed :: keeps A x0 X) (hT : T.length ≤ ce) (h0 : 0 ≤ x0) (h1 : x0 ≤ X) (h2 : X ≤ A.length) :
    (X - x0).toNat + rest.length + 1 ≤ ce := by
  have := keeps_len h0 h1 h2
  have e := congrArg List.length hP
  rw [hQ] at e
  simp only [List.length_append, List.length_cons] at e
  omega
theorem zero_len {A : List ByteArray} {X : Int} {rest T : List (Int × ByteArray)} {ce : Nat} (hP : T = keeps A 0 X ++ rest) (hT : T.length ≤ ce) (h1 : 0 ≤ X) (h2 : X ≤ A.length) : X.toNat + rest.length ≤ ce := by
  have := keeps_len (Int.le_refl 0) h1 h2
  have e := congrArg List.length hP
  simp only [List.length_append] at e
  omega
theorem rest_len {A : List ByteArray} {X' X : Int} {rest rest' : List (Int × ByteArray)} (h3 : rest' = keeps A X' X ++ rest) (h0 : 0 ≤ X') (h1 : X' ≤ X) (h2 : X ≤ A.length) : rest'.length = (X - X').toNat + rest.length := by
  rw [h3, List.length_append, keeps_len h0 h1 h2]

/-- Behind a exchanges from both ends 'cur' is 'T.reverse' with its first and last a places already as in T. -/
def Swapped (T : List (Int × ByteArray)) (a : Nat) (cur : List (Int × ByteArray)) : Prop :=
  cur.length = T.length ∧ ∀ t, t < T.length → cur[t]? = if t < a ∨ T.length < t + 1 + a then T[t]? else T[T.length - 1 - t]?
theorem swapped_start (T : List (Int × ByteArray)) : Swapped T 0 T.reverse := by
  refine ⟨by simp, fun t ht => ?_⟩
  rw [if_neg (by omega), List.getElem?_reverse ht]
theorem swapped_end {T cur : List (Int × ByteArray)} {a : Nat} (h : Swapped T a cur) (ha : T.length ≤ 2 * a + 1) : cur = T := by
  apply List.ext_getElem?
  intro t
  by_cases ht : t < T.length
  · rw [h.2 t ht]
    split
    · rfl
    · have : T.length - 1 - t = t := by omega
      rw [this]
  · rw [List.getElem?_eq_none (by have := h.1; omega), List.getElem?_eq_none (by omega)]
theorem swapped_step {T cur : List (Int × ByteArray)} {a : Nat} (h : Swapped T a cur) (ha : 2 * a + 1 < T.length) :
    ∃ ea eb, cur[a]? = some ea ∧ cur[T.length - 1 - a]? = some eb ∧ Swapped T (a + 1) ((cur.set a eb).set (T.length - 1 - a) ea) := by
  obtain ⟨hl, hc⟩ := h
  have h1 := hc a (by omega)
  have h2 := hc (T.length - 1 - a) (by omega)
  rw [if_neg (by omega)] at h1 h2
  rw [show T.length - 1 - (T.length - 1 - a) = a by omega] at h2
  refine ⟨T[T.length - 1 - a]'(by omega), T[a]'(by omega), by rw [h1]; simp, by rw [h2]; simp, by simp [hl], ?_⟩
  intro t ht
  rw [List.getElem?_set, List.getElem?_set]
  by_cases e1 : T.length - 1 - a = t
  · subst e1
    rw [if_pos rfl, if_pos (by rw [List.length_set]; omega), if_pos (by omega)]
    simp
  · rw [if_neg e1]
    by_cases e2 : a = t
    · subst e2
      rw [if_pos rfl, if_pos (by omega), if_pos (by omega)]
      simp
    · rw [if_neg e2, hc t ht]
      by_cases e3 : t < a ∨ T.length < t + 1 + a
      · rw [if_pos e3, if_pos (by omega)]
      · rw [if_neg e3, if_neg (by omega)]

theorem ecells_set : ∀ (cur : List (Int × ByteArray)) (a : Nat) (e : Int × ByteArray), ecells (cur.set a e) = ((ecells cur).set (a * 2) (.int .u8 e.1)).set (a * 2 + 1) (.string e.2)
  | [], a, e => by simp [ecells]
  | f :: cur, 0, e => by simp [ecells]
  | f :: cur, a + 1, e => by
    have := ecells_set cur a e
    have e1 : (a + 1) * 2 = a * 2 + 1 + 1 := by omega
    simp only [ecells, List.set_cons_succ, List.flatMap_cons, List.cons_append, List.nil_append, e1] at this ⊢
    rw [this]
theorem swap_own {w : World} {base ge n ce : Nat} {cur : List (Int × ByteArray)} (h : w.ownsRow base 33 2 (.slice (some ⟨ge, 0, none⟩) n ce) n (ecells cur)) (a b : Nat) (ea eb : Int × ByteArray) :
    ((((w.setCell ⟨ge, a * 2, none⟩ (.int .u8 eb.1)).setCell ⟨ge, a * 2 + 1, none⟩ (.string eb.2)).setCell ⟨ge, b * 2, none⟩ (.int .u8 ea.1)).setCell ⟨ge, b * 2 + 1, none⟩ (.string ea.2)).drew.ownsRow base 33 2 (.slice (some ⟨ge, 0, none⟩) n ce) n (ecells ((cur.set a eb).set b ea)) ∧
    w.grownBy ((((w.setCell ⟨ge, a * 2, none⟩ (.int .u8 eb.1)).setCell ⟨ge, a * 2 + 1, none⟩ (.string eb.2)).setCell ⟨ge, b * 2, none⟩ (.int .u8 ea.1)).setCell ⟨ge, b * 2 + 1, none⟩ (.string ea.2)).drew (some ge) := by
  obtain ⟨h1, g1⟩ := h.stored (a * 2) (.int .u8 eb.1)
  obtain ⟨h2, g2⟩ := h1.stored (a * 2 + 1) (.string eb.2)
  obtain ⟨h3, g3⟩ := h2.stored (b * 2) (.int .u8 ea.1)
  obtain ⟨h4, g4⟩ := h3.stored (b * 2 + 1) (.string ea.2)
  rw [← ecells_set, ← ecells_set] at h4
  exact ⟨h4.drew, grown_drewN (n := 1) (grown_trans (grown_trans (grown_trans g1 g2) g3) g4)⟩

set_option maxHeartbeats 4000000 in
set_option maxRecDepth 100000 in
theorem back_any (A B : List ByteArray) (D ba oa ca bb ob cb gt ct ge ce base : Nat) (w : World) (hN : A.length ≤ 4096) (hM : B.length ≤ 4096)
    (hA : ∀ j, j < A.length → w.cell? ⟨ba, oa + j, none⟩ = some (.string (A.getD j ByteArray.empty))) (hba : ba ≠ ge)
    (hB : ∀ j, j < B.length → w.cell? ⟨bb, ob + j, none⟩ = some (.string (B.getD j ByteArray.empty))) (hbb : bb ≠ ge)
    (hT : Trace A B D gt ge w) (hF : First A B D) (hD : D ≤ 8192)
    (hown : w.ownsRow base 33 2 (.slice (some ⟨ge, 0, none⟩) 0 ce) 0 []) (hce : A.length + B.length ≤ ce) :
    Calls Try.prog 11 #[.slice (some ⟨ba, oa, none⟩) A.length ca, .slice (some ⟨bb, ob, none⟩) B.length cb, .slice (some ⟨gt, 0, none⟩) (D + 1) ct, .slice (some ⟨ge, 0, none⟩) 0 ce] w fun e w' =>
      e = .returned (.slice (some ⟨ge, 0, none⟩) (path A B D A.length B.length).length ce) ∧
      w'.ownsRow base 33 2 (.slice (some ⟨ge, 0, none⟩) (path A B D A.length B.length).length ce) (path A B D A.length B.length).length (ecells (path A B D A.length B.length)) ∧ w.grownBy w' (some ge) := by
  obtain ⟨i33, hi, hz0, hz1, hz2⟩ := info_parts Try.info33
  have HF : Hid (i33.zero = some (.agg #[.int .u8 0, .string ByteArray.empty])) := hz0
  have HL0 : Hid ((path A B D A.length B.length).length ≤ A.length + B.length) := by
    have := path_length A B D _ _ (on_end hF)
    show _ ≤ _
    omega
  have HL : Hid ((path A B D A.length B.length).length ≤ ce) := Nat.le_trans HL0.out hce
  clear hz0
  go_enter Try.func11, Try.ntmps11
  go_wp2
  go_loopw [3, 9, 10, 12] (fun ed x y dv wr => ∃ (d : Nat) (X Y : Int) (rest : List (Int × ByteArray)), dv = .int .i64 d ∧ x = .int .i64 X ∧ y = .int .i64 Y ∧ ed = .slice (some ⟨ge, 0, none⟩) rest.length ce ∧
      On A B d X Y ∧ path A B D A.length B.length = path A B d X Y ++ rest ∧ wr.ownsRow base 33 2 (.slice (some ⟨ge, 0, none⟩) rest.length ce) rest.length (ecells rest.reverse) ∧ w.grownBy wr (some ge) ∧ d ≤ D)
    (fun _ _ _ dv _ => (intOf dv).toNat)
  case atStart => exact ⟨D, A.length, B.length, [], by go_num, rfl, rfl, rfl, on_end hF, by simp, hown, World.grownBy.refl _ _, by omega⟩
  case round =>
    obtain ⟨d, X, Y, rest, rfl, rfl, rfl, rfl, hOn, hpath, hownr, hgr, hdD⟩ := hrel
    obtain ⟨g, c, hgg, hct, hcg⟩ := (hT.grown hgr).2 d hdD
    have hn := hOn.nonneg
    have HO : Hid (On A B d X Y) := hOn
    have HP : Hid (path A B D A.length B.length = path A B d X Y ++ rest) := hpath
    obtain ⟨⟨v1, v2, v3⟩, -, hXN, hYM⟩ := hOn
    have HA : Hid (∀ j, j < A.length → w.cell? ⟨ba, oa + j, none⟩ = some (.string (A.getD j ByteArray.empty))) := hA
    have HB : Hid (∀ j, j < B.length → w.cell? ⟨bb, ob + j, none⟩ = some (.string (B.getD j ByteArray.empty))) := hB
    have HT : Hid (Trace A B D gt ge w) := hT
    clear hpath hA hB hT
    have hd1 : 1 ≤ d ∨ d = 0 := by omega
    rcases hd1 with hd1 | rfl
    · by_cases hk1 : X - Y = -(d : Int)
      · have hr : right A B d (X - Y) = false := by unfold right; exact decide_eq_false (fun h => h.1 hk1)
        obtain ⟨px, hG, hU, s1, s2, s3, o, hp⟩ := back_down hd1 HO.out hr
        have hc1 := hcg _ hU
        rw [hG] at hc1
        have HR : Hid (On A B (d - 1) px (px - (X - Y + 1))) := o
        have HQ : Hid (path A B d X Y = path A B (d - 1) px (px - (X - Y + 1)) ++ (43, B.getD (px - (X - Y + 1)).toNat ByteArray.empty) :: keeps A px X) := hp
        have hlen := outer_len HP.out HQ.out HL.out s1 s2 hXN
        clear o hp
        have hb1 : (X - Y != -(d : Int)) = false := by simp; omega
        clear hcg hk1 hr hG hU
        go_wp2
        go_quiet (fail)
        go_wp2
        clear hb1
        obtain ⟨wo, rfl⟩ : ∃ wo : World, wo = wr := ⟨_, rfl⟩
        clear hc1 hct
        go_loopw [3, 9, 10] (fun ed x y wr2 => ∃ (X' : Int) (rest' : List (Int × ByteArray)), x = .int .i64 X' ∧ y = .int .i64 (X' - (X - Y)) ∧ ed = .slice (some ⟨ge, 0, none⟩) rest'.length ce ∧ px ≤ X' ∧ X' ≤ X ∧
            Hid (rest' = keeps A X' X ++ rest) ∧ wr2.ownsRow base 33 2 (.slice (some ⟨ge, 0, none⟩) rest'.length ce) rest'.length (ecells rest'.reverse) ∧ w.grownBy wr2 (some ge)) (fun _ x _ _ => (intOf x - (px)).toNat)
        case atStart => exact ⟨X, rest, rfl, by go_num, rfl, by omega, Int.le_refl _, by show _ = _; rw [keeps_self]; rfl, hownr, grown_drewN hgr _⟩
        case round =>
          obtain ⟨X', rest', rfl, rfl, rfl, h1, h2, h3, hown2, hgr2⟩ := hrel
          clear hgr hownr
          by_cases hX : px < X'
          · have hcA := hgr2.cell (HA.out (X' - 1).toNat (by omega)) (by simpa using hba)
            generalize hs : A.getD (X' - 1).toNat ByteArray.empty = s at hcA
            rw [show (X' - 1).toNat = X'.toNat - 1 by omega] at hcA
            have HS : Hid (A.getD (X' - 1).toNat ByteArray.empty = s) := hs
            have hrl := rest_len h3.out (by omega) h2 hXN
            have hrest : rest'.length + 1 ≤ ce := by omega
            clear hs hrl
            go_wp2_with (at_builtin; refine wpList_append_fits _ rfl _ _ 30 rfl base 33 i33 2 Try.underlying30 hi hz1 ge rest'.length ce _ rfl (hown2.alloc _) ⟨wr.heap.size, 0, none⟩ 1 1 [.int .u8 32, .string s] rfl rfl (two_new _ _ _ _) (two_one _ _) hrest ?_)
            intro w1 hown3 hgr3
            rw [ecells_snoc] at hown3
            have hgr4 := grown_trans hgr2 (grown_trans (World.grownBy_alloc _ _ _) hgr3)
            clear hown2 hgr2 hgr3 hcA
            go_wp2
            go_roundw
            case rel => exact ⟨X' - 1, (32, s) :: rest', by go_num, by go_num, rfl, by omega, by omega, inner_step h3.out (by omega) h2 hXN HS.out, hown3, hgr4⟩
            case measure => simp [intOf]; omega
          · have hcB := hgr2.cell (HB.out (X' - (X - Y) - 1).toNat (by omega)) (by simpa using hbb)
            generalize hs : B.getD (X' - (X - Y) - 1).toNat ByteArray.empty = s at hcB
            rw [show (X' - (X - Y) - 1).toNat = (X' - (X - Y)).toNat - 1 by omega] at hcB
            have HS : Hid (B.getD (px - (X - Y + 1)).toNat ByteArray.empty = s) := by
              show _ = _
              rw [← hs, show px - (X - Y + 1) = X' - (X - Y) - 1 by omega]
            have hrl := rest_len h3.out (by omega) h2 hXN
            have hrest : rest'.length + 1 ≤ ce := by omega
            clear hs hrl
            go_wp2_with (at_builtin; refine wpList_append_fits _ rfl _ _ 30 rfl base 33 i33 2 Try.underlying30 hi hz1 ge rest'.length ce _ rfl (hown2.alloc _) ⟨wr.heap.size, 0, none⟩ 1 1 [.int .u8 43, .string s] rfl rfl (two_new _ _ _ _) (two_one _ _) hrest ?_)
            intro w1 hown3 hgr3
            rw [ecells_snoc] at hown3
            have hgr4 := grown_trans hgr2 (grown_trans (World.grownBy_alloc _ _ _) hgr3)
            clear hown2 hgr2 hgr3 hcB
            go_wp2
            go_roundw
            case rel => exact ⟨d - 1, px, px - (X - Y + 1), (43, s) :: rest', by go_num, by go_num, by go_num, rfl, HR.out, HS.out ▸ outer_step HP.out HQ.out h3.out (by omega), hown3, hgr4, by omega⟩
            case measure => simp [intOf]; omega
      · have hb1 : (X - Y != -(d : Int)) = true := by simp; omega
        by_cases hk2 : X - Y = (d : Int)
        · have hr : right A B d (X - Y) = true := by unfold right; exact decide_eq_true ⟨hk1, .inl hk2⟩
          obtain ⟨px, hG, hU, s1, s2, s3, o, hp⟩ := back_right hd1 HO.out hr
          have hc1 := hcg _ hU
          rw [hG] at hc1
          have HR : Hid (On A B (d - 1) px (px - (X - Y - 1))) := o
          have HQ : Hid (path A B d X Y = path A B (d - 1) px (px - (X - Y - 1)) ++ (45, A.getD px.toNat ByteArray.empty) :: keeps A (px + 1) X) := hp
          have hlen := outer_len HP.out HQ.out HL.out (by omega) s2 hXN
          clear o hp
          have hb2 : (X - Y == (d : Int)) = true := by simp; omega
          clear hcg hk1 hk2 hr hG hU
          go_wp2
          go_quiet (fail)
          go_wp2
          clear hb1 hb2
          obtain ⟨wo, rfl⟩ : ∃ wo : World, wo = wr := ⟨_, rfl⟩
          clear hc1 hct
          go_loopw [3, 9, 10] (fun ed x y wr2 => ∃ (X' : Int) (rest' : List (Int × ByteArray)), x = .int .i64 X' ∧ y = .int .i64 (X' - (X - Y)) ∧ ed = .slice (some ⟨ge, 0, none⟩) rest'.length ce ∧ px + 1 ≤ X' ∧ X' ≤ X ∧
              Hid (rest' = keeps A X' X ++ rest) ∧ wr2.ownsRow base 33 2 (.slice (some ⟨ge, 0, none⟩) rest'.length ce) rest'.length (ecells rest'.reverse) ∧ w.grownBy wr2 (some ge)) (fun _ x _ _ => (intOf x - (px + 1)).toNat)
          case atStart => exact ⟨X, rest, rfl, by go_num, rfl, by omega, Int.le_refl _, by show _ = _; rw [keeps_self]; rfl, hownr, grown_drewN hgr _⟩
          case round =>
            obtain ⟨X', rest', rfl, rfl, rfl, h1, h2, h3, hown2, hgr2⟩ := hrel
            clear hgr hownr
            by_cases hX : px + 1 < X'
            · have hcA := hgr2.cell (HA.out (X' - 1).toNat (by omega)) (by simpa using hba)
              generalize hs : A.getD (X' - 1).toNat ByteArray.empty = s at hcA
              rw [show (X' - 1).toNat = X'.toNat - 1 by omega] at hcA
              have HS : Hid (A.getD (X' - 1).toNat ByteArray.empty = s) := hs
              have hrl := rest_len h3.out (by omega) h2 hXN
              have hrest : rest'.length + 1 ≤ ce := by omega
              clear hs hrl
              go_wp2_with (at_builtin; refine wpList_append_fits _ rfl _ _ 30 rfl base 33 i33 2 Try.underlying30 hi hz1 ge rest'.length ce _ rfl (hown2.alloc _) ⟨wr.heap.size, 0, none⟩ 1 1 [.int .u8 32, .string s] rfl rfl (two_new _ _ _ _) (two_one _ _) hrest ?_)
              intro w1 hown3 hgr3
              rw [ecells_snoc] at hown3
              have hgr4 := grown_trans hgr2 (grown_trans (World.grownBy_alloc _ _ _) hgr3)
              clear hown2 hgr2 hgr3 hcA
              go_wp2
              go_roundw
              case rel => exact ⟨X' - 1, (32, s) :: rest', by go_num, by go_num, rfl, by omega, by omega, inner_step h3.out (by omega) h2 hXN HS.out, hown3, hgr4⟩
              case measure => simp [intOf]; omega
            · have hcA := hgr2.cell (HA.out (X' - 1).toNat (by omega)) (by simpa using hba)
              generalize hs : A.getD (X' - 1).toNat ByteArray.empty = s at hcA
              rw [show (X' - 1).toNat = X'.toNat - 1 by omega] at hcA
              have HS : Hid (A.getD px.toNat ByteArray.empty = s) := by
                show _ = _
                rw [← hs, show px = X' - 1 by omega]
              have hrl := rest_len h3.out (by omega) h2 hXN
              have hrest : rest'.length + 1 ≤ ce := by omega
              clear hs hrl
              go_wp2_with (at_builtin; refine wpList_append_fits _ rfl _ _ 30 rfl base 33 i33 2 Try.underlying30 hi hz1 ge rest'.length ce _ rfl (hown2.alloc _) ⟨wr.heap.size, 0, none⟩ 1 1 [.int .u8 45, .string s] rfl rfl (two_new _ _ _ _) (two_one _ _) hrest ?_)
              intro w1 hown3 hgr3
              rw [ecells_snoc] at hown3
              have hgr4 := grown_trans hgr2 (grown_trans (World.grownBy_alloc _ _ _) hgr3)
              clear hown2 hgr2 hgr3 hcA
              go_wp2
              go_roundw
              case rel => exact ⟨d - 1, px, px - (X - Y - 1), (45, s) :: rest', by go_num, by go_num, by go_num, rfl, HR.out, HS.out ▸ outer_step HP.out HQ.out h3.out (by omega), hown3, hgr4, by omega⟩
              case measure => simp [intOf]; omega
        · have hb2 : (X - Y == (d : Int)) = false := by simp; omega
          by_cases hcmp : G A B d (X - Y + 1) ≤ G A B d (X - Y - 1)
          · have hr : right A B d (X - Y) = true := by unfold right; exact decide_eq_true ⟨hk1, .inr hcmp⟩
            obtain ⟨px, hG, hU, s1, s2, s3, o, hp⟩ := back_right hd1 HO.out hr
            have hc1 := hcg _ hU
            rw [hG] at hc1
            have HR : Hid (On A B (d - 1) px (px - (X - Y - 1))) := o
            have HQ : Hid (path A B d X Y = path A B (d - 1) px (px - (X - Y - 1)) ++ (45, A.getD px.toNat ByteArray.empty) :: keeps A (px + 1) X) := hp
            have hlen := outer_len HP.out HQ.out HL.out (by omega) s2 hXN
            clear o hp
            have hc2 := hcg (X - Y + 1) (.inr ⟨d - 1, by omega, by omega, by omega, by omega⟩)
            rw [hG] at hcmp
            generalize G A B d (X - Y + 1) = qx at hc2 hcmp
            have hb3 : decide (qx ≤ px) = true := decide_eq_true hcmp
            clear hcg hk1 hk2 hr hG hU
            go_wp2
            go_quiet (fail)
            go_wp2
            clear hb1 hb2 hb3 hc2 hcmp
            obtain ⟨wo, rfl⟩ : ∃ wo : World, wo = wr := ⟨_, rfl⟩
            clear hc1 hct
            go_loopw [3, 9, 10] (fun ed x y wr2 => ∃ (X' : Int) (rest' : List (Int × ByteArray)), x = .int .i64 X' ∧ y = .int .i64 (X' - (X - Y)) ∧ ed = .slice (some ⟨ge, 0, none⟩) rest'.length ce ∧ px + 1 ≤ X' ∧ X' ≤ X ∧
                Hid (rest' = keeps A X' X ++ rest) ∧ wr2.ownsRow base 33 2 (.slice (some ⟨ge, 0, none⟩) rest'.length ce) rest'.length (ecells rest'.reverse) ∧ w.grownBy wr2 (some ge)) (fun _ x _ _ => (intOf x - (px + 1)).toNat)
            case atStart => exact ⟨X, rest, rfl, by go_num, rfl, by omega, Int.le_refl _, by show _ = _; rw [keeps_self]; rfl, hownr, grown_drewN hgr _⟩
            case round =>
              obtain ⟨X', rest', rfl, rfl, rfl, h1, h2, h3, hown2, hgr2⟩ := hrel
              clear hgr hownr
              by_cases hX : px + 1 < X'
              · have hcA := hgr2.cell (HA.out (X' - 1).toNat (by omega)) (by simpa using hba)
                generalize hs : A.getD (X' - 1).toNat ByteArray.empty = s at hcA
                rw [show (X' - 1).toNat = X'.toNat - 1 by omega] at hcA
                have HS : Hid (A.getD (X' - 1).toNat ByteArray.empty = s) := hs
                have hrl := rest_len h3.out (by omega) h2 hXN
                have hrest : rest'.length + 1 ≤ ce := by omega
                clear hs hrl
                go_wp2_with (at_builtin; refine wpList_append_fits _ rfl _ _ 30 rfl base 33 i33 2 Try.underlying30 hi hz1 ge rest'.length ce _ rfl (hown2.alloc _) ⟨wr.heap.size, 0, none⟩ 1 1 [.int .u8 32, .string s] rfl rfl (two_new _ _ _ _) (two_one _ _) hrest ?_)
                intro w1 hown3 hgr3
                rw [ecells_snoc] at hown3
                have hgr4 := grown_trans hgr2 (grown_trans (World.grownBy_alloc _ _ _) hgr3)
                clear hown2 hgr2 hgr3 hcA
                go_wp2
                go_roundw
                case rel => exact ⟨X' - 1, (32, s) :: rest', by go_num, by go_num, rfl, by omega, by omega, inner_step h3.out (by omega) h2 hXN HS.out, hown3, hgr4⟩
                case measure => simp [intOf]; omega
              · have hcA := hgr2.cell (HA.out (X' - 1).toNat (by omega)) (by simpa using hba)
                generalize hs : A.getD (X' - 1).toNat ByteArray.empty = s at hcA
                rw [show (X' - 1).toNat = X'.toNat - 1 by omega] at hcA
                have HS : Hid (A.getD px.toNat ByteArray.empty = s) := by
                  show _ = _
                  rw [← hs, show px = X' - 1 by omega]
                have hrl := rest_len h3.out (by omega) h2 hXN
                have hrest : rest'.length + 1 ≤ ce := by omega
                clear hs hrl
                go_wp2_with (at_builtin; refine wpList_append_fits _ rfl _ _ 30 rfl base 33 i33 2 Try.underlying30 hi hz1 ge rest'.length ce _ rfl (hown2.alloc _) ⟨wr.heap.size, 0, none⟩ 1 1 [.int .u8 45, .string s] rfl rfl (two_new _ _ _ _) (two_one _ _) hrest ?_)
                intro w1 hown3 hgr3
                rw [ecells_snoc] at hown3
                have hgr4 := grown_trans hgr2 (grown_trans (World.grownBy_alloc _ _ _) hgr3)
                clear hown2 hgr2 hgr3 hcA
                go_wp2
                go_roundw
                case rel => exact ⟨d - 1, px, px - (X - Y - 1), (45, s) :: rest', by go_num, by go_num, by go_num, rfl, HR.out, HS.out ▸ outer_step HP.out HQ.out h3.out (by omega), hown3, hgr4, by omega⟩
                case measure => simp [intOf]; omega
          · have hr : right A B d (X - Y) = false := by unfold right; exact decide_eq_false (fun h => by rcases h.2 with h | h; exact hk2 h; exact hcmp h)
            obtain ⟨px, hG, hU, s1, s2, s3, o, hp⟩ := back_down hd1 HO.out hr
            have hc1 := hcg _ hU
            rw [hG] at hc1
            have HR : Hid (On A B (d - 1) px (px - (X - Y + 1))) := o
            have HQ : Hid (path A B d X Y = path A B (d - 1) px (px - (X - Y + 1)) ++ (43, B.getD (px - (X - Y + 1)).toNat ByteArray.empty) :: keeps A px X) := hp
            have hlen := outer_len HP.out HQ.out HL.out s1 s2 hXN
            clear o hp
            have hc2 := hcg (X - Y - 1) (.inr ⟨d - 1, by omega, by omega, by omega, by omega⟩)
            rw [hG] at hcmp
            generalize G A B d (X - Y - 1) = qx at hc2 hcmp
            have hb3 : decide (px ≤ qx) = false := decide_eq_false hcmp
            clear hcg hk1 hk2 hr hG hU
            go_wp2
            go_quiet (fail)
            go_wp2
            clear hb1 hb2 hb3 hc2 hcmp
            obtain ⟨wo, rfl⟩ : ∃ wo : World, wo = wr := ⟨_, rfl⟩
            clear hc1 hct
            go_loopw [3, 9, 10] (fun ed x y wr2 => ∃ (X' : Int) (rest' : List (Int × ByteArray)), x = .int .i64 X' ∧ y = .int .i64 (X' - (X - Y)) ∧ ed = .slice (some ⟨ge, 0, none⟩) rest'.length ce ∧ px ≤ X' ∧ X' ≤ X ∧
                Hid (rest' = keeps A X' X ++ rest) ∧ wr2.ownsRow base 33 2 (.slice (some ⟨ge, 0, none⟩) rest'.length ce) rest'.length (ecells rest'.reverse) ∧ w.grownBy wr2 (some ge)) (fun _ x _ _ => (intOf x - (px)).toNat)
            case atStart => exact ⟨X, rest, rfl, by go_num, rfl, by omega, Int.le_refl _, by show _ = _; rw [keeps_self]; rfl, hownr, grown_drewN hgr _⟩
            case round =>
              obtain ⟨X', rest', rfl, rfl, rfl, h1, h2, h3, hown2, hgr2⟩ := hrel
              clear hgr hownr
              by_cases hX : px < X'
              · have hcA := hgr2.cell (HA.out (X' - 1).toNat (by omega)) (by simpa using hba)
                generalize hs : A.getD (X' - 1).toNat ByteArray.empty = s at hcA
                rw [show (X' - 1).toNat = X'.toNat - 1 by omega] at hcA
                have HS : Hid (A.getD (X' - 1).toNat ByteArray.empty = s) := hs
                have hrl := rest_len h3.out (by omega) h2 hXN
                have hrest : rest'.length + 1 ≤ ce := by omega
                clear hs hrl
                go_wp2_with (at_builtin; refine wpList_append_fits _ rfl _ _ 30 rfl base 33 i33 2 Try.underlying30 hi hz1 ge rest'.length ce _ rfl (hown2.alloc _) ⟨wr.heap.size, 0, none⟩ 1 1 [.int .u8 32, .string s] rfl rfl (two_new _ _ _ _) (two_one _ _) hrest ?_)
                intro w1 hown3 hgr3
                rw [ecells_snoc] at hown3
                have hgr4 := grown_trans hgr2 (grown_trans (World.grownBy_alloc _ _ _) hgr3)
                clear hown2 hgr2 hgr3 hcA
                go_wp2
                go_roundw
                case rel => exact ⟨X' - 1, (32, s) :: rest', by go_num, by go_num, rfl, by omega, by omega, inner_step h3.out (by omega) h2 hXN HS.out, hown3, hgr4⟩
                case measure => simp [intOf]; omega
              · have hcB := hgr2.cell (HB.out (X' - (X - Y) - 1).toNat (by omega)) (by simpa using hbb)
                generalize hs : B.getD (X' - (X - Y) - 1).toNat ByteArray.empty = s at hcB
                rw [show (X' - (X - Y) - 1).toNat = (X' - (X - Y)).toNat - 1 by omega] at hcB
                have HS : Hid (B.getD (px - (X - Y + 1)).toNat ByteArray.empty = s) := by
                  show _ = _
                  rw [← hs, show px - (X - Y + 1) = X' - (X - Y) - 1 by omega]
                have hrl := rest_len h3.out (by omega) h2 hXN
                have hrest : rest'.length + 1 ≤ ce := by omega
                clear hs hrl
                go_wp2_with (at_builtin; refine wpList_append_fits _ rfl _ _ 30 rfl base 33 i33 2 Try.underlying30 hi hz1 ge rest'.length ce _ rfl (hown2.alloc _) ⟨wr.heap.size, 0, none⟩ 1 1 [.int .u8 43, .string s] rfl rfl (two_new _ _ _ _) (two_one _ _) hrest ?_)
                intro w1 hown3 hgr3
                rw [ecells_snoc] at hown3
                have hgr4 := grown_trans hgr2 (grown_trans (World.grownBy_alloc _ _ _) hgr3)
                clear hown2 hgr2 hgr3 hcB
                go_wp2
                go_roundw
                case rel => exact ⟨d - 1, px, px - (X - Y + 1), (43, s) :: rest', by go_num, by go_num, by go_num, rfl, HR.out, HS.out ▸ outer_step HP.out HQ.out h3.out (by omega), hown3, hgr4, by omega⟩
                case measure => simp [intOf]; omega
    · obtain rfl : Y = X := by omega
      have hc1 := hcg 1 (.inl ⟨rfl, rfl⟩)
      have hg0 : G A B 0 1 = 0 := rfl
      rw [hg0] at hc1
      rw [show ((1 : Int) + ((0 : Nat) : Int) + 1).toNat = 2 by omega] at hc1
      have hP0 := HP.out
      rw [path_zero] at hP0
      have HQ : Hid (path A B D A.length B.length = keeps A 0 Y ++ rest) := hP0
      have hlen := zero_len hP0 HL.out hn.1 hXN
      clear hcg hP0 v1 v2 v3 hg0
      go_wp2
      go_quiet (fail)
      go_wp2
      obtain ⟨wo, rfl⟩ : ∃ wo : World, wo = wr := ⟨_, rfl⟩
      clear hc1 hct
      go_loopw [3, 9, 10] (fun ed x y wr2 => ∃ (X' : Int) (rest' : List (Int × ByteArray)), x = .int .i64 X' ∧ y = .int .i64 X' ∧ ed = .slice (some ⟨ge, 0, none⟩) rest'.length ce ∧ 0 ≤ X' ∧ X' ≤ Y ∧
          Hid (rest' = keeps A X' Y ++ rest) ∧ wr2.ownsRow base 33 2 (.slice (some ⟨ge, 0, none⟩) rest'.length ce) rest'.length (ecells rest'.reverse) ∧ w.grownBy wr2 (some ge)) (fun _ x _ _ => (intOf x - (0)).toNat)
      case atStart => exact ⟨Y, rest, rfl, by go_num, rfl, by omega, Int.le_refl _, by show _ = _; rw [keeps_self]; rfl, hownr, grown_drewN hgr _⟩
      case round =>
        obtain ⟨X', rest', rfl, rfl, rfl, h1, h2, h3, hown2, hgr2⟩ := hrel
        clear hgr hownr
        by_cases hX : 0 < X'
        · have hcA := hgr2.cell (HA.out (X' - 1).toNat (by omega)) (by simpa using hba)
          generalize hs : A.getD (X' - 1).toNat ByteArray.empty = s at hcA
          rw [show (X' - 1).toNat = X'.toNat - 1 by omega] at hcA
          have HS : Hid (A.getD (X' - 1).toNat ByteArray.empty = s) := hs
          have hrl := rest_len h3.out (by omega) h2 hXN
          have hrest : rest'.length + 1 ≤ ce := by omega
          clear hs hrl
          go_wp2_with (at_builtin; refine wpList_append_fits _ rfl _ _ 30 rfl base 33 i33 2 Try.underlying30 hi hz1 ge rest'.length ce _ rfl (hown2.alloc _) ⟨wr.heap.size, 0, none⟩ 1 1 [.int .u8 32, .string s] rfl rfl (two_new _ _ _ _) (two_one _ _) hrest ?_)
          intro w1 hown3 hgr3
          rw [ecells_snoc] at hown3
          have hgr4 := grown_trans hgr2 (grown_trans (World.grownBy_alloc _ _ _) hgr3)
          clear hown2 hgr2 hgr3 hcA
          go_wp2
          go_roundw
          case rel => (repeat apply Exists.intro); exact ⟨⟨X' - 1, (32, s) :: rest', by go_num, by go_num, rfl, by omega, by omega, inner_step h3.out (by omega) h2 hXN HS.out, hown3, hgr4⟩, rfl⟩
          case measure => simp [intOf]; omega
        · have hX0 : X' = 0 := by omega
          have HT' : Hid (rest' = path A B D A.length B.length) := by
            show _ = _
            rw [HQ.out, h3.out, hX0]
          have hrn : rest'.length ≤ 8192 := by rw [HT'.out]; have := HL0.out; omega
          clear hX0
          go_wp2
          obtain ⟨wo2, rfl⟩ : ∃ wo2 : World, wo2 = wr := ⟨_, rfl⟩
          go_loopw [18, 19] (fun i j wr3 => ∃ (a : Nat) (cur : List (Int × ByteArray)), i = .int .i64 a ∧ j = .int .i64 ((rest'.length : Int) - 1 - a) ∧ 2 * a ≤ rest'.length ∧ Hid (Swapped rest' a cur) ∧
              wr3.ownsRow base 33 2 (.slice (some ⟨ge, 0, none⟩) rest'.length ce) rest'.length (ecells cur) ∧ w.grownBy wr3 (some ge)) (fun i _ _ => rest'.length - (intOf i).toNat)
          case atStart => exact ⟨0, rest'.reverse, rfl, by go_num, by omega, swapped_start rest', hown2, hgr2⟩
          case round =>
            obtain ⟨a, cur, rfl, rfl, ha, hsw, hown4, hgr4⟩ := hrel
            clear hown2 hgr2
            by_cases hlt : (a : Int) < (rest'.length : Int) - 1 - a
            · obtain ⟨ea, eb, hea, heb, hnext⟩ := swapped_step hsw.out (by omega)
              obtain ⟨b, hb⟩ : ∃ b : Nat, (rest'.length : Int) - 1 - a = b := ⟨rest'.length - 1 - a, by omega⟩
              rw [show rest'.length - 1 - a = b by omega] at heb hnext
              rw [hb] at hlt
              rw [hb]
              obtain ⟨ca1, ca2⟩ := ecells_at cur a ea hea
              obtain ⟨cb1, cb2⟩ := ecells_at cur b eb heb
              have hcl : a < cur.length ∧ b < cur.length := by rw [hsw.out.1]; omega
              have la1 := (hown4.cellAt (a * 2) (by omega)).trans ca1
              have la2 := (hown4.cellAt (a * 2 + 1) (by omega)).trans ca2
              have lb1 := (hown4.cellAt (b * 2) (by omega)).trans cb1
              have lb2 := (hown4.cellAt (b * 2 + 1) (by omega)).trans cb2
              have fa1 := hown4.frozenAt (a * 2)
              have fa2 := hown4.frozenAt (a * 2 + 1)
              have fb1 := hown4.frozenAt (b * 2)
              have fb2 := hown4.frozenAt (b * 2 + 1)
              have hab : ¬ b = a := by omega
              have hba' : b < rest'.length := by omega
              have HB' : Hid ((rest'.length : Int) - 1 - a = b) := hb
              have HN : Hid (Swapped rest' (a + 1) ((cur.set a eb).set b ea)) := hnext
              clear ca1 ca2 cb1 cb2 hea heb hnext hcl hb
              go_wp2
              go_region
              go_wp2
              go_roundw
              case measure => simp [intOf]; omega
              case rel =>
                have hb := HB'.out
                obtain ⟨o4, g4⟩ := swap_own hown4 a b ea eb
                exact ⟨a + 1, _, by go_num, by go_num, by omega, HN, o4, grown_trans hgr4 g4⟩
            · go_wp2
              go_ret
              rw [swapped_end hsw.out (by omega), HT'.out] at hown4
              rw [← HT'.out] 
              exact ⟨rfl, HT'.out ▸ hown4, hgr4⟩
end Go.Proofs.Qxb6618347a
