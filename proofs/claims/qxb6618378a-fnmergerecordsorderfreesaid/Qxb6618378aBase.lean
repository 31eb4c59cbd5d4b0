/-
  Shared small facts: rows of tags, rows of rows.
-/
import Derived.Test.Qxb6618378aProg
import Derived.WalkKit
import Derived.WalkSpells
import Derived.WalkLawsBesides
import Derived.KernelRfl
import Derived.RegionTactic
import Derived.BigRegion
import Derived.Deep.QuietTactic
import Derived.BigQuiet
namespace Go.Proofs.Qxb6618378a
open Go.RowKit

theorem Try.info45 : (Try.prog.info? 45).map (fun i => (i.zero, i.size, i.bytes)) = some (some (.agg #[.int .u64 0, .int .u64 0]), 2, 16) := by kernel_rfl
theorem Try.info34 : (Try.prog.info? 34).map (fun i => (i.zero, i.size, i.bytes)) = some (some (.slice none 0 0), 1, 24) := by kernel_rfl
theorem Try.info49 : (Try.prog.info? 49).map (fun i => (i.zero, i.size, i.bytes)) = some (some (.slice none 0 0), 1, 24) := by kernel_rfl

/-- A row of tags. -/
def TagRow (w : World) (ao : Option Addr) (n : Nat) (T : List (Int × Int)) : Prop :=
  T.length = n ∧ (n = 0 ∨ ∃ b off, ao = some ⟨b, off, none⟩ ∧ ∀ j, j < n → w.cell? ⟨b, off + j * 2, none⟩ = some (.int .u64 (T.getD j (0, 0)).1) ∧ w.cell? ⟨b, off + j * 2 + 1, none⟩ = some (.int .u64 (T.getD j (0, 0)).2))

/-- A row of rows of tags. -/
def Rows2 (w : World) (vo : Option Addr) (n : Nat) (X : List (List (Int × Int))) : Prop :=
  X.length = n ∧ (n = 0 ∨ ∃ b off, vo = some ⟨b, off, none⟩ ∧ ∀ j, j < n → ∃ ao m c, w.cell? ⟨b, off + j, none⟩ = some (.slice ao m c) ∧ TagRow w ao m (X.getD j []))

theorem TagRow.later {w w' : World} {ao : Option Addr} {n : Nat} {T : List (Int × Int)} (h : TagRow w ao n T) (hb : Below w.heap.size w w') : TagRow w' ao n T := by
  obtain ⟨h1, h2 | ⟨b, off, rfl, hc⟩⟩ := h
  · exact ⟨h1, .inl h2⟩
  · refine ⟨h1, .inr ⟨b, off, rfl, fun j hj => ?_⟩⟩
    obtain ⟨c1, c2⟩ := hc j hj
    exact ⟨(hb.cell (p := ⟨b, off + j * 2, none⟩) (World.block_lt_of_cell? w _ c1)).trans c1, (hb.cell (p := ⟨b, off + j * 2 + 1, none⟩) (World.block_lt_of_cell? w _ c2)).trans c2⟩
theorem Rows2.later {w w' : World} {vo : Option Addr} {n : Nat} {X : List (List (Int × Int))} (h : Rows2 w vo n X) (hb : Below w.heap.size w w') : Rows2 w' vo n X := by
  obtain ⟨h1, h2 | ⟨b, off, rfl, hc⟩⟩ := h
  · exact ⟨h1, .inl h2⟩
  · refine ⟨h1, .inr ⟨b, off, rfl, fun j hj => ?_⟩⟩
    obtain ⟨ao, m, c, c1, c2⟩ := hc j hj
    exact ⟨ao, m, c, (hb.cell (p := ⟨b, off + j, none⟩) (World.block_lt_of_cell? w _ c1)).trans c1, c2.later hb⟩

theorem own_below {w w' : World} {b : Nat} {e : TypeId} {size : Nat} {v : Value} {n : Nat} {xs : List Value} (h : w.ownsRow b e size v n xs) (hb : Below w.heap.size w w') : w'.ownsRow b e size v n xs := by
  obtain ⟨h1, h2⟩ := h
  refine ⟨h1, ?_⟩
  rcases h2 with h2 | ⟨g, cap, cur, hv, hg, hh, r⟩
  · exact .inl h2
  · exact .inr ⟨g, cap, cur, hv, hg, by rw [hb.block g (lt_of_block hh)]; exact hh, r⟩
theorem own_apart {w : World} {b b' : Nat} {e e' : TypeId} {size size' : Nat} {v v' : Value} {n n' : Nat} {xs xs' : List Value} (h : w.ownsRow b e size v n xs) (h' : w.ownsRow b' e' size' v' n' xs') (he : e ≠ e') : v.ownBlock = none ∨ v.ownBlock ≠ v'.ownBlock := by
  rcases h.2 with ⟨rfl, _⟩ | ⟨g, cap, cur, rfl, hg, hh, r⟩
  · exact .inl rfl
  · rcases h'.2 with ⟨rfl, _⟩ | ⟨g', cap', cur', rfl, hg', hh', r'⟩
    · exact .inr (by simp [Value.ownBlock])
    · refine .inr ?_
      simp only [Value.ownBlock, ne_eq, Option.some.injEq]
      rintro rfl
      rw [hh] at hh'
      simp at hh'
      exact he hh'.2
theorem grown_trans {a b c : World} {row : Option Nat} (h : a.grownBy b row) (k : b.grownBy c row) : a.grownBy c row :=
  ⟨k.os.trans h.os, k.tape.trans h.tape, k.output.trans h.output, Nat.le_trans h.size k.size, fun i hi hr => (k.block i (Nat.lt_of_lt_of_le hi h.size) hr).trans (h.block i hi hr)⟩
theorem below_drewN' {B : Nat} {a w : World} (h : Below B a w) (q : Nat) : Below B a (w.drewN q) := ⟨h.os, h.tape, h.output, h.size, h.block⟩

set_option maxHeartbeats 400000 in
theorem greater_any (a b : Int) (w : World) : Calls Try.prog 9 #[.int .u64 a, .int .u64 b] w fun e w' => e = .returned (.int .u64 (max a b)) ∧ w' = w := by
  by_cases h : b < a
  · go_enter Try.func9, Try.ntmps9
    go_wp2
    go_ret
    exact ⟨by rw [Int.max_eq_left (by omega)]; rfl, rfl⟩
  · go_enter Try.func9, Try.ntmps9
    go_wp2
    go_ret
    exact ⟨by rw [Int.max_eq_right (by omega)]; rfl, rfl⟩
set_option maxHeartbeats 400000 in
theorem lesser_any (a b : Int) (w : World) : Calls Try.prog 12 #[.int .u64 a, .int .u64 b] w fun e w' => e = .returned (.int .u64 (min a b)) ∧ w' = w := by
  by_cases h : a < b
  · go_enter Try.func12, Try.ntmps12
    go_wp2
    go_ret
    exact ⟨by rw [Int.min_eq_left (by omega)]; rfl, rfl⟩
  · go_enter Try.func12, Try.ntmps12
    go_wp2
    go_ret
    exact ⟨by rw [Int.min_eq_right (by omega)]; rfl, rfl⟩

set_option maxHeartbeats 1000000 in
/-- Two rows of tags compared. -/
theorem same_own (ao bo : Option Addr) (n m ca cb : Nat) (S T : List (Int × Int)) (w : World) (h : TagRow w ao n S) (h' : TagRow w bo m T) (hn : n ≤ 1048576) (hm : m ≤ 1048576) :
    Calls Try.prog 13 #[.slice ao n ca, .slice bo m cb] w fun e w' => e = .returned (.bool (decide (S = T))) ∧ ∃ q, w' = w.drewN q := by
  have l1 := h.1
  have l2 := h'.1
  by_cases hnm : n = m
  case neg =>
    have hb : ((n : Int) != (m : Int)) = true := by simp; omega
    have HF : Hid (decide (S = T) = false) := decide_eq_false (fun e => hnm (by rw [← l1, ← l2, e]))
    clear l1 l2 hnm
    go_enter Try.func13, Try.ntmps13
    go_wp2
    go_ret
    exact ⟨by rw [HF.out]; rfl, 0, rfl⟩
  subst hnm
  have HL : Hid (S.length = n ∧ T.length = n) := ⟨l1, l2⟩
  clear l1 l2
  go_enter Try.func13, Try.ntmps13
  go_wp2
  go_loopw [5] (fun i wr => ∃ k q : Nat, k ≤ n ∧ i = .int .i64 k ∧ Hid (∀ j, j < k → S.getD j (0, 0) = T.getD j (0, 0)) ∧ wr = w.drewN q) (fun i _ => n - (intOf i).toNat)
  case atStart => exact ⟨0, 0, Nat.zero_le _, rfl, fun j hj => by omega, rfl⟩
  case round =>
    obtain ⟨k, q, hk, rfl, hsame, rfl⟩ := hrel
    by_cases hlt : k < n
    · obtain ⟨_, h0 | ⟨b, off, rfl, hc⟩⟩ := h
      · omega
      obtain ⟨_, h0 | ⟨b', off', rfl, hc'⟩⟩ := h'
      · omega
      obtain ⟨z1, z2⟩ := hc k hlt
      obtain ⟨z3, z4⟩ := hc' k hlt
      clear hc hc'
      by_cases he : S.getD k (0, 0) = T.getD k (0, 0)
      · have HN : Hid (∀ j, j < k + 1 → S.getD j (0, 0) = T.getD j (0, 0)) := fun j hj => by
          by_cases e : j = k
          · subst e; exact he
          · exact hsame.out j (by omega)
        rw [← he] at z3 z4
        clear he
        generalize (S.getD k (0, 0)).1 = a1 at z1 z3
        generalize (S.getD k (0, 0)).2 = a2 at z2 z4
        have hb1 : (a1 == a1) = true := by simp
        have hb2 : (a2 == a2) = true := by simp
        go_wp2
        go_quiet (fail)
        go_wp2
        go_roundw
        case rel => exact ⟨k + 1, _, by omega, by go_num, HN, rfl⟩
        case measure => simp [intOf]; omega
      · have HF : Hid (decide (S = T) = false) := decide_eq_false (fun e => he (by rw [e]))
        have hne : ¬ ((S.getD k (0, 0)).1 = (T.getD k (0, 0)).1 ∧ (S.getD k (0, 0)).2 = (T.getD k (0, 0)).2) := fun h => he (Prod.ext h.1 h.2)
        clear he
        generalize (S.getD k (0, 0)).1 = a1 at z1 hne
        generalize (S.getD k (0, 0)).2 = a2 at z2 hne
        generalize (T.getD k (0, 0)).1 = a3 at z3 hne
        generalize (T.getD k (0, 0)).2 = a4 at z4 hne
        by_cases h1 : a1 = a3
        · have hb1 : (a1 == a3) = true := by simpa using h1
          have hb2 : (a2 == a4) = false := by simp; exact fun h => hne ⟨h1, h⟩
          clear h1 hne
          go_wp2
          go_quiet (fail)
          go_wp2
          go_ret
          exact ⟨by rw [HF.out]; rfl, q + nq, by rw [World.drewN_drewN]⟩
        · have hb1 : (a1 == a3) = false := by simpa using h1
          clear h1 hne
          go_wp2
          go_quiet (fail)
          go_wp2
          go_ret
          exact ⟨by rw [HF.out]; rfl, q + nq, by rw [World.drewN_drewN]⟩
    · have HT : Hid (decide (S = T) = true) := decide_eq_true (by
        obtain ⟨e1, e2⟩ := HL.out
        apply List.ext_getElem (by omega)
        intro j h1 h2
        have := hsame.out j (by omega)
        rwa [List.getD_eq_getElem?_getD, List.getD_eq_getElem?_getD, List.getElem?_eq_getElem h1, List.getElem?_eq_getElem h2] at this)
      go_wp2
      go_ret
      exact ⟨by rw [HT.out]; rfl, _, rfl⟩

set_option maxHeartbeats 1000000 in
/-- The same at the other package. -/
theorem same_orset (ao bo : Option Addr) (n m ca cb : Nat) (S T : List (Int × Int)) (w : World) (h : TagRow w ao n S) (h' : TagRow w bo m T) (hn : n ≤ 1048576) (hm : m ≤ 1048576) :
    Calls Try.prog 10 #[.slice ao n ca, .slice bo m cb] w fun e w' => e = .returned (.bool (decide (S = T))) ∧ ∃ q, w' = w.drewN q := by
  have l1 := h.1
  have l2 := h'.1
  by_cases hnm : n = m
  case neg =>
    have hb : ((n : Int) != (m : Int)) = true := by simp; omega
    have HF : Hid (decide (S = T) = false) := decide_eq_false (fun e => hnm (by rw [← l1, ← l2, e]))
    clear l1 l2 hnm
    go_enter Try.func10, Try.ntmps10
    go_wp2
    go_ret
    exact ⟨by rw [HF.out]; rfl, 0, rfl⟩
  subst hnm
  have HL : Hid (S.length = n ∧ T.length = n) := ⟨l1, l2⟩
  clear l1 l2
  go_enter Try.func10, Try.ntmps10
  go_wp2
  go_loopw [5] (fun i wr => ∃ k q : Nat, k ≤ n ∧ i = .int .i64 k ∧ Hid (∀ j, j < k → S.getD j (0, 0) = T.getD j (0, 0)) ∧ wr = w.drewN q) (fun i _ => n - (intOf i).toNat)
  case atStart => exact ⟨0, 0, Nat.zero_le _, rfl, fun j hj => by omega, rfl⟩
  case round =>
    obtain ⟨k, q, hk, rfl, hsame, rfl⟩ := hrel
    by_cases hlt : k < n
    · obtain ⟨_, h0 | ⟨b, off, rfl, hc⟩⟩ := h
      · omega
      obtain ⟨_, h0 | ⟨b', off', rfl, hc'⟩⟩ := h'
      · omega
      obtain ⟨z1, z2⟩ := hc k hlt
      obtain ⟨z3, z4⟩ := hc' k hlt
      clear hc hc'
      by_cases he : S.getD k (0, 0) = T.getD k (0, 0)
      · have HN : Hid (∀ j, j < k + 1 → S.getD j (0, 0) = T.getD j (0, 0)) := fun j hj => by
          by_cases e : j = k
          · subst e; exact he
          · exact hsame.out j (by omega)
        rw [← he] at z3 z4
        clear he
        generalize (S.getD k (0, 0)).1 = a1 at z1 z3
        generalize (S.getD k (0, 0)).2 = a2 at z2 z4
        have hb1 : (a1 == a1) = true := by simp
        have hb2 : (a2 == a2) = true := by simp
        go_wp2
        go_quiet (fail)
        go_wp2
        go_roundw
        case rel => exact ⟨k + 1, _, by omega, by go_num, HN, rfl⟩
        case measure => simp [intOf]; omega
      · have HF : Hid (decide (S = T) = false) := decide_eq_false (fun e => he (by rw [e]))
        have hne : ¬ ((S.getD k (0, 0)).1 = (T.getD k (0, 0)).1 ∧ (S.getD k (0, 0)).2 = (T.getD k (0, 0)).2) := fun h => he (Prod.ext h.1 h.2)
        clear he
        generalize (S.getD k (0, 0)).1 = a1 at z1 hne
        generalize (S.getD k (0, 0)).2 = a2 at z2 hne
        generalize (T.getD k (0, 0)).1 = a3 at z3 hne
        generalize (T.getD k (0, 0)).2 = a4 at z4 hne
        by_cases h1 : a1 = a3
        · have hb1 : (a1 == a3) = true := by simpa using h1
          have hb2 : (a2 == a4) = false := by simp; exact fun h => hne ⟨h1, h⟩
          clear h1 hne
          go_wp2
          go_quiet (fail)
          go_wp2
          go_ret
          exact ⟨by rw [HF.out]; rfl, q + nq, by rw [World.drewN_drewN]⟩
        · have hb1 : (a1 == a3) = false := by simpa using h1
          clear h1 hne
          go_wp2
          go_quiet (fail)
          go_wp2
          go_ret
          exact ⟨by rw [HF.out]; rfl, q + nq, by rw [World.drewN_drewN]⟩
    · have HT : Hid (decide (S = T) = true) := decide_eq_true (by
        obtain ⟨e1, e2⟩ := HL.out
        apply List.ext_getElem (by omega)
        intro j h1 h2
        have := hsame.out j (by omega)
        rwa [List.getD_eq_getElem?_getD, List.getD_eq_getElem?_getD, List.getElem?_eq_getElem h1, List.getElem?_eq_getElem h2] at this)
      go_wp2
      go_ret
      exact ⟨by rw [HT.out]; rfl, _, rfl⟩

set_option maxHeartbeats 400000 in
theorem tag_any (a b : Int) (w : World) : Calls Try.prog 17 #[.agg #[.int .u64 a, .int .u64 b]] w fun e w' => e = .returned (.agg #[.int .u64 a, .int .u64 b]) ∧ Below w.heap.size w w' := by
  go_enter Try.func17, Try.ntmps17
  go_wp2
  exact bodyPost_ret (v := .agg #[.int .u64 a, .int .u64 b]) (by simp [results, Try.results17, go_sem]) rfl ⟨rfl, ((Below.refl _ _).alloc (Nat.le_refl _) _).alloc (by simp) _⟩
end Go.Proofs.Qxb6618378a
