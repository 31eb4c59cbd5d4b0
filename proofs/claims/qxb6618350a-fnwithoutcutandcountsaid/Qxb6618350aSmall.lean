/-
  Walks of the law file's small functions.
-/
import Derived.Test.Qxb6618350aBase
namespace Go.Proofs.Qxb6618350a
open Go.RowKit

set_option maxHeartbeats 400000 in
theorem guard_any (a0 a1 a2 a3 : Option Addr) (n0 c0 n1 c1 n2 c2 n3 c3 : Nat) (c : Int) (w : World) :
    Calls Try.prog 4 #[.slice a0 n0 c0, .slice a1 n1 c1, .slice a2 n2 c2, .slice a3 n3 c3, .int .i64 c] w fun e w' => ∃ r : Value, e = .returned r ∧ (r = .bool true ∨ r = .bool false) ∧ w' = w := by
  by_cases h0 : 1048576 < n0
  · go_enter Try.func4, Try.ntmps4
    go_wp2
    go_ret
    exact ⟨_, rfl, .inr rfl, rfl⟩
  by_cases h1 : 1048576 < n1
  · go_enter Try.func4, Try.ntmps4
    go_wp2
    go_ret
    exact ⟨_, rfl, .inr rfl, rfl⟩
  by_cases h2 : 1048576 < n2
  · go_enter Try.func4, Try.ntmps4
    go_wp2
    all_goals (go_ret; exact ⟨_, rfl, .inr rfl, rfl⟩)
  by_cases h3 : 1048576 < n3
  · go_enter Try.func4, Try.ntmps4
    go_wp2
    all_goals (go_ret; exact ⟨_, rfl, .inr rfl, rfl⟩)
  go_enter Try.func4, Try.ntmps4
  go_wp2
  all_goals (go_ret; first | exact ⟨_, rfl, .inr rfl, rfl⟩ | exact ⟨_, rfl, .inl rfl, rfl⟩)

set_option maxHeartbeats 400000 in
theorem has_any (ao : Option Addr) (n cap : Nat) (X : List Int) (c : Int) (w : World) (h : IntRow w ao n X) (hn : n ≤ 1048576) :
    Calls Try.prog 7 #[.slice ao n cap, .int .i64 c] w fun e w' => e = .returned (.bool (hasB X c)) ∧ w' = w := by
  have hl := h.1
  go_enter Try.func7, Try.ntmps7
  go_wp2
  go_loop [5] (fun i => ∃ k : Nat, k ≤ n ∧ i = .int .i64 k ∧ Hid (∀ j, j < k → X.getD j 0 ≠ c)) (fun i => n - (intOf i).toNat)
  case atStart => exact ⟨0, Nat.zero_le _, rfl, fun j hj => by omega⟩
  case round =>
    obtain ⟨k, hk, rfl, hno⟩ := hrel
    by_cases hlt : k < n
    · obtain ⟨_, h0 | ⟨b, off, rfl, hc⟩⟩ := h
      · omega
      have hcell := hc k hlt
      clear hc
      by_cases he : X.getD k 0 = c
      · have HT : Hid (hasB X c = true) := hasB_true (by omega) he
        generalize X.getD k 0 = x at hcell he
        subst he
        have hb : (x == x) = true := by simp
        clear hl
        go_wp2
        go_ret
        exact ⟨by rw [HT.out]; rfl, rfl⟩
      · have HN : Hid (∀ j, j < k + 1 → X.getD j 0 ≠ c) := fun j hj => by
          by_cases e : j = k
          · subst e; exact he
          · exact hno.out j (by omega)
        generalize X.getD k 0 = x at hcell he
        have hb : (x == c) = false := by simpa using he
        clear hl he
        go_wp2
        go_round
        case rel => exact ⟨k + 1, by omega, by go_num, HN⟩
        case measure => simp [intOf]; omega
    · have HF : Hid (hasB X c = false) := hasB_false.2 (fun j hj => hno.out j (by omega))
      clear hl
      go_wp2
      go_ret
      exact ⟨by rw [HF.out]; rfl, rfl⟩

set_option maxHeartbeats 400000 in
theorem pos_any (ao : Option Addr) (n cap : Nat) (X : List Int) (w : World) (h : IntRow w ao n X) (hn : n ≤ 1048576) :
    Calls Try.prog 9 #[.slice ao n cap] w fun e w' => e = .returned (.bool (posB X)) ∧ w' = w := by
  have hl := h.1
  go_enter Try.func9, Try.ntmps9
  go_wp2
  go_loop [3] (fun i => ∃ k : Nat, k ≤ n ∧ i = .int .i64 k ∧ Hid (∀ j, j < k → 1 ≤ X.getD j 0)) (fun i => n - (intOf i).toNat)
  case atStart => exact ⟨0, Nat.zero_le _, rfl, fun j hj => by omega⟩
  case round =>
    obtain ⟨k, hk, rfl, hno⟩ := hrel
    by_cases hlt : k < n
    · obtain ⟨_, h0 | ⟨b, off, rfl, hc⟩⟩ := h
      · omega
      have hcell := hc k hlt
      clear hc
      by_cases he : X.getD k 0 < 1
      · have HT : Hid (posB X = false) := posB_false (by omega) he
        generalize X.getD k 0 = x at hcell he
        clear hl
        go_wp2
        go_ret
        exact ⟨by rw [HT.out]; rfl, rfl⟩
      · have HN : Hid (∀ j, j < k + 1 → 1 ≤ X.getD j 0) := fun j hj => by
          by_cases e : j = k
          · subst e; omega
          · exact hno.out j (by omega)
        generalize X.getD k 0 = x at hcell he
        clear hl
        go_wp2
        go_round
        case rel => exact ⟨k + 1, by omega, by go_num, HN⟩
        case measure => simp [intOf]; omega
    · have HF : Hid (posB X = true) := posB_true.1 (fun j hj => hno.out j (by omega))
      clear hl
      go_wp2
      go_ret
      exact ⟨by rw [HF.out]; rfl, rfl⟩

set_option maxHeartbeats 400000 in
/-- Two rows of the same numbers are the same. -/
theorem same_any (ao bo : Option Addr) (n ca cb : Nat) (X : List Int) (w : World) (h : IntRow w ao n X) (h' : IntRow w bo n X) (hn : n ≤ 1048576) :
    Calls Try.prog 8 #[.slice ao n ca, .slice bo n cb] w fun e w' => e = .returned (.bool true) ∧ ∃ q, w' = w.drewN q := by
  go_enter Try.func8, Try.ntmps8
  go_wp2
  go_loopw [5] (fun i wr => ∃ k q : Nat, k ≤ n ∧ i = .int .i64 k ∧ wr = w.drewN q) (fun i _ => n - (intOf i).toNat)
  case atStart => exact ⟨0, 0, Nat.zero_le _, rfl, rfl⟩
  case round =>
    obtain ⟨k, q, hk, rfl, rfl⟩ := hrel
    by_cases hlt : k < n
    · obtain ⟨_, h0 | ⟨b, off, rfl, hc⟩⟩ := h
      · omega
      obtain ⟨_, h0 | ⟨b', off', rfl, hc'⟩⟩ := h'
      · omega
      have z1 := hc k hlt
      have z2 := hc' k hlt
      clear hc hc'
      generalize X.getD k 0 = x at z1 z2
      have hb : (x != x) = false := by simp
      go_wp2
      go_quiet (fail)
      go_wp2
      go_roundw
      case rel => exact ⟨k + 1, _, by omega, by go_num, rfl⟩
      case measure => simp [intOf]; omega
    · go_wp2
      go_ret
      exact ⟨rfl, q, rfl⟩

set_option maxHeartbeats 1000000 in
set_option maxRecDepth 100000 in
theorem join_any (X Y : List Int) (n m : Nat) (xo yo : Option Addr) (cx cy : Nat) (w : World) (hX : IntRow w xo n X) (hY : IntRow w yo m Y) (hn : n ≤ 1048576) (hm : m ≤ 1048576) :
    Calls Try.prog 5 #[.slice xo n cx, .slice yo m cy] w fun e w' => ∃ g, e = .returned (.slice (some ⟨g, 0, none⟩) (n + m) (n + m)) ∧ IntRow w' (some ⟨g, 0, none⟩) (n + m) (X ++ Y) ∧ Below w.heap.size w w' := by
  obtain ⟨i3, hi3, hy0, hy1, hy2⟩ := info_parts Try.info3
  have lX := hX.1
  have lY := hY.1
  have HX : Hid (IntRow w xo n X) := hX
  have HY : Hid (IntRow w yo m Y) := hY
  have HLX : Hid (X.length = n) := lX
  have HLY : Hid (Y.length = m) := lY
  clear hX hY lX lY
  go_enter Try.func5, Try.ntmps5
  go_wp2_with (at_make; refine wpList_make_full _ rfl _ _ 22 rfl w.heap.size 3 i3 _ 1 Try.underlying22 hi3 hy0 hy1 _ _ _ _ (n + m) rfl rfl (by omega) (by omega) (by rw [hy2]; omega) (by unfold maxLen; omega) (Nat.le_refl _) ?_)
  intro w1 hk1 hg1
  have hb1 : Below w.heap.size w w1 := (Below.refl _ _).grown hg1 (Nat.le_refl _) (by rintro k ⟨⟩)
  simp only [toList_madeCells_one, ← part_zero (icell (X ++ Y))] at hk1
  clear hg1
  go_wp2
  go_loopw [6] (fun i wr => ∃ (k : Nat), k ≤ n ∧ i = .int .i64 k ∧ wr.ownsRow w.heap.size 3 1 (.slice (some ⟨w.heap.size, 0, none⟩) (n + m) (n + m)) (n + m) (part (icell (X ++ Y)) (.int .i64 0) (n + m) k) ∧ Below w.heap.size w wr) (fun i _ => n - (intOf i).toNat)
  case atStart => exact ⟨0, Nat.zero_le _, rfl, hk1, hb1⟩
  case round =>
    obtain ⟨k, hk, rfl, hown, hbel⟩ := hrel
    clear hk1 hb1
    by_cases hlt : k < n
    · obtain ⟨_, h | ⟨pb, pf, rfl, hc⟩⟩ := IntRow.later' w HX.out hbel
      · omega
      have hcell := hc k hlt
      obtain ⟨y1, q1⟩ : ∃ u, wr.cell? ⟨w.heap.size, k, none⟩ = some u := ⟨_, (hown.cellAt k (by omega)).trans (List.getElem?_eq_getElem (by rw [part_length]; omega))⟩
      have f1 := hown.frozenAt k
      obtain ⟨o1, g1⟩ := hown.stored k (icell (X ++ Y) k)
      rw [part_set] at o1
      have hb1 := hbel.grown g1 hbel.size (by rintro k ⟨⟩; exact Nat.le_refl _)
      unfold icell at o1 hb1
      have e : (X ++ Y).getD k 0 = X.getD k 0 := by
        have := HLX.out
        simp [List.getD_eq_getElem?_getD, List.getElem?_append_left (show k < X.length by omega)]
      rw [e] at o1 hb1
      generalize X.getD k 0 = s at hcell o1 hb1
      clear hc hown hbel g1 e
      go_wp2
      go_roundw
      case rel => exact ⟨k + 1, by omega, by go_num, o1, hb1⟩
      case measure => simp [intOf]; omega
    · have hkp : k = n := by omega
      rw [hkp] at hown
      clear hkp
      obtain ⟨wq, rfl⟩ : ∃ wq : World, wq = wr := ⟨_, rfl⟩
      go_wp2
      go_loopw [7] (fun i wr => ∃ (k : Nat), k ≤ m ∧ i = .int .i64 k ∧ wr.ownsRow w.heap.size 3 1 (.slice (some ⟨w.heap.size, 0, none⟩) (n + m) (n + m)) (n + m) (part (icell (X ++ Y)) (.int .i64 0) (n + m) (n + k)) ∧ Below w.heap.size w wr) (fun i _ => m - (intOf i).toNat)
      case atStart => exact ⟨0, Nat.zero_le _, rfl, hown, hbel⟩
      case round =>
        obtain ⟨j, hj, rfl, hown2, hbel2⟩ := hrel
        clear hown hbel
        by_cases hlt2 : j < m
        · obtain ⟨_, h | ⟨pb, pf, rfl, hc⟩⟩ := IntRow.later' w HY.out hbel2
          · omega
          have hcell := hc j hlt2
          obtain ⟨y1, q1⟩ : ∃ u, wr.cell? ⟨w.heap.size, n + j, none⟩ = some u := ⟨_, (hown2.cellAt (n + j) (by omega)).trans (List.getElem?_eq_getElem (by rw [part_length]; omega))⟩
          have f1 := hown2.frozenAt (n + j)
          obtain ⟨o1, g1⟩ := hown2.stored (n + j) (icell (X ++ Y) (n + j))
          rw [part_set] at o1
          have hb1 := hbel2.grown g1 hbel2.size (by rintro k ⟨⟩; exact Nat.le_refl _)
          unfold icell at o1 hb1
          have e : (X ++ Y).getD (n + j) 0 = Y.getD j 0 := by
            have := HLX.out
            subst this
            simp [List.getD_eq_getElem?_getD, List.getElem?_append_right (Nat.le_add_right _ _)]
          rw [e] at o1 hb1
          generalize Y.getD j 0 = s at hcell o1 hb1
          clear hc hown2 hbel2 g1 e
          go_wp2
          go_roundw
          case rel => exact ⟨j + 1, by omega, by go_num, o1, hb1⟩
          case measure => simp [intOf]; omega
        · rw [part_full _ _ _ _ (by omega)] at hown2
          have H : Hid (IntRow wr (some ⟨w.heap.size, 0, none⟩) (n + m) (X ++ Y)) := intRow_of hown2 (by rw [List.length_append, HLX.out, HLY.out])
          clear hown2
          go_wp2
          go_ret
          exact ⟨_, rfl, H.out, hbel2⟩
end Go.Proofs.Qxb6618350a
