/-
  Walk of slices.Delete at []batch (16), one element taken out of a row that the call's caller made.
-/
import Derived.Test.Qxb6618350aLib
namespace Go.Proofs.Qxb6618350a
open Go.RowKit

theorem run_clear_one (w : World) (ty : TypeId) (b o c : Nat) (h0 : (w.cell? ⟨b, o, none⟩).isSome = true) (h1 : (w.cell? ⟨b, o + 1, none⟩).isSome = true) (f0 : w.frozen? ⟨b, o, none⟩ = false) (f1 : w.frozen? ⟨b, o + 1, none⟩ = false) :
    (Builtin.clear_ #[31] ty #[.slice (some ⟨b, o, none⟩) 1 c]).run Try.prog w = .ok (.tuple #[]) (w.setCells b o [.int .i64 0, .int .i64 0]) := by
  have hst := run_storeCells_cells (P := Try.prog) b o [.int .i64 0, .int .i64 0] 0 w (by intro j hj; match j, hj with | 0, _ => exact h0 | 1, _ => exact h1) (by intro j hj; match j, hj with | 0, _ => exact f0 | 1, _ => exact f1) (by intro v hv'; simp at hv'; subst hv'; rfl)
  simp only [Nat.add_zero] at hst
  have hz : (Builtin.zeroCells (Value.agg #[.int .i64 0, .int .i64 0]).cells 1).toList = [.int .i64 0, .int .i64 0] := by simp [Builtin.zeroCells, Value.cells, List.range, List.range.loop]
  simp [Builtin.clear_, run_underlying Try.underlying31, hz, hst]

/-- Writing a run of cells, as lists. -/
def setL : List Value → Nat → List Value → List Value
  | xs, _, [] => xs
  | xs, o, v :: r => setL (xs.set o v) (o + 1) r
theorem setL_eq : ∀ (vs xs : List Value) (o : Nat), o + vs.length ≤ xs.length → setL xs o vs = xs.take o ++ vs ++ xs.drop (o + vs.length)
  | [], xs, o, _ => by simp [setL]
  | v :: r, xs, o, h => by
    simp only [List.length_cons] at h
    rw [setL, setL_eq r (xs.set o v) (o + 1) (by simp; omega)]
    rw [List.take_set, List.drop_set_of_lt (by omega)]
    rw [List.take_succ_eq_append_getElem (show o < xs.length by omega), List.set_append_right _ _ (by simp; omega)]
    simp [show min o xs.length = o by omega]
    omega
theorem own_setCells {base g n cap : Nat} {e : TypeId} {size : Nat} : ∀ (vs : List Value) (o : Nat) (w : World) (xs : List Value), w.ownsRow base e size (.slice (some ⟨g, 0, none⟩) n cap) n xs →
    (w.setCells g o vs).ownsRow base e size (.slice (some ⟨g, 0, none⟩) n cap) n (setL xs o vs) ∧ w.grownBy (w.setCells g o vs) (some g)
  | [], o, w, xs, h => ⟨h, World.grownBy.refl _ _⟩
  | v :: r, o, w, xs, h => by
    obtain ⟨h1, g1⟩ := h.stored o v
    obtain ⟨h2, g2⟩ := own_setCells r (o + 1) _ _ h1
    exact ⟨h2, grown_trans g1 g2⟩
theorem own_take {w : World} {base g n cap i : Nat} {e : TypeId} {size : Nat} {xs : List Value} (h : w.ownsRow base e size (.slice (some ⟨g, 0, none⟩) n cap) n xs) (hi : i ≤ n) : w.ownsRow base e size (.slice (some ⟨g, 0, none⟩) i cap) i (xs.take (i * size)) := by
  obtain ⟨h1, h2⟩ := h
  have hm : i * size ≤ n * size := Nat.mul_le_mul_right _ hi
  refine ⟨by rw [List.length_take, h1]; omega, ?_⟩
  rcases h2 with ⟨h', _⟩ | ⟨g', cap', cur, hv, hg, hh, hc, hx, hs, ht⟩
  · simp at h'
  · simp only [Value.slice.injEq, Option.some.injEq, Addr.mk.injEq, and_true, true_and] at hv
    obtain ⟨rfl, rfl⟩ := hv
    refine .inr ⟨g, cap, cur, rfl, hg, hh, by omega, hx, hs, ?_⟩
    rw [← ht, List.take_take, Nat.min_eq_left hm]

/-- What lies in the row behind the two writes. -/
theorem del_cells (L1 L2 : List (Int × Int)) (x : Int × Int) : (setL (setL (bcells (L1 ++ x :: L2)) (L1.length * 2) (bcells L2)) ((L1.length + L2.length) * 2) [.int .i64 0, .int .i64 0]).take ((L1.length + L2.length) * 2) = bcells (L1 ++ L2) := by
  have hX : (bcells (L1 ++ x :: L2)).length = (L1.length + (L2.length + 1)) * 2 := by rw [length_bcells]; simp
  have h2 := length_bcells L2
  have h1 := length_bcells L1
  have ht : (bcells (L1 ++ x :: L2)).take (L1.length * 2) = bcells L1 := by rw [bcells_take]; simp
  have e1 : setL (bcells (L1 ++ x :: L2)) (L1.length * 2) (bcells L2) = bcells L1 ++ bcells L2 ++ (bcells (L1 ++ x :: L2)).drop (L1.length * 2 + (bcells L2).length) := by
    rw [setL_eq _ _ _ (by omega), ht]
  rw [e1, setL_eq _ _ _ (by simp only [List.length_append, List.length_drop, List.length_cons, List.length_nil]; omega)]
  have hlen : (bcells L1 ++ bcells L2).length = (L1.length + L2.length) * 2 := by rw [List.length_append]; omega
  rw [List.append_assoc, List.take_append_of_le_length (by simp only [List.length_take, List.length_append, List.length_drop]; omega), List.take_take, Nat.min_self, List.take_append_of_le_length (by omega), List.take_of_length_le (by omega), bcells_append]

set_option maxHeartbeats 1600000 in
set_option maxRecDepth 1000000 in
theorem del_any (L1 L2 : List (Int × Int)) (x : Int × Int) (base g cap : Nat) (w : World) (h : w.ownsRow base 33 2 (.slice (some ⟨g, 0, none⟩) (L1.length + 1 + L2.length) cap) (L1.length + 1 + L2.length) (bcells (L1 ++ x :: L2))) (hn0 : L1.length + 1 + L2.length ≤ 1048576) :
    Calls Try.prog 16 #[.slice (some ⟨g, 0, none⟩) (L1.length + 1 + L2.length) cap, .int .i64 L1.length, .int .i64 ((L1.length : Int) + 1)] w fun e w' =>
      e = .returned (.slice (some ⟨g, 0, none⟩) (L1.length + L2.length) cap) ∧ w'.ownsRow base 33 2 (.slice (some ⟨g, 0, none⟩) (L1.length + L2.length) cap) (L1.length + L2.length) (bcells (L1 ++ L2)) ∧ w.grownBy w' (some g) := by
  obtain ⟨i33, hi, hz0, hz1, hz2⟩ := info_parts Try.info33
  have hn := hn0
  clear hn0
  have HO : Hid (w.ownsRow base 33 2 (.slice (some ⟨g, 0, none⟩) (L1.length + 1 + L2.length) cap) (L1.length + 1 + L2.length) (bcells (L1 ++ x :: L2))) := h
  have hcap : L1.length + 1 + L2.length ≤ cap ∧ cap ≤ 9223372036854775807 := by
    rcases h.2 with ⟨h', _⟩ | ⟨g', cap', cur, hv, _, _, hc, hm, _⟩
    · simp at h'
    · simp only [Value.slice.injEq, Option.some.injEq, Addr.mk.injEq, and_true, true_and] at hv
      obtain ⟨rfl, rfl⟩ := hv
      exact ⟨hc, by unfold maxLen at hm; omega⟩
  clear h
  generalize hL1 : L1.length = i at hn HO hcap ⊢
  generalize hL2 : L2.length = m at hn HO hcap ⊢
  obtain ⟨A, hA, hnews⟩ : ∃ A : Addr, (if cap = i + 1 then some (⟨g, 0, none⟩ : Addr) else some ⟨g, (i + 1) * 2, none⟩) = some A ∧ Hid (∀ j u, (bcells L2)[j]? = some u → w.drew.cell? (A.add j) = some u) := by
    have hb2 := length_bcells L2
    by_cases hz : cap = i + 1
    · refine ⟨⟨g, 0, none⟩, by simp [hz], fun j u hu => ?_⟩
      have h0 : (bcells L2).length = 0 := by omega
      rw [List.length_eq_zero_iff.1 h0] at hu
      simp at hu
    · refine ⟨⟨g, (i + 1) * 2, none⟩, by simp [hz], fun j u hu => ?_⟩
      have hj : j < m * 2 := by
        have := (List.getElem?_eq_some_iff.1 hu).1
        omega
      have hd : (bcells (L1 ++ x :: L2)).drop ((i + 1) * 2) = bcells L2 := by rw [bcells_drop, ← hL1, ← List.drop_drop]; simp
      rw [Addr.add_lit]
      have := World.ownsRow.drew HO.out
      rw [this.cellAt ((i + 1) * 2 + j) (by omega), ← List.getElem?_drop, hd]
      exact hu
  have s1 : Hid ((bcells L2).length = m * 2) := by
    show _ = _
    rw [length_bcells, hL2]
  have s3 : Hid (∀ j, j < (bcells L2).length → (w.drew.cell? ⟨g, 0 + i * 2 + j, none⟩).isSome = true ∧ w.drew.frozen? ⟨g, 0 + i * 2 + j, none⟩ = false) := by
    intro j hj
    rw [length_bcells, hL2] at hj
    have hl := HO.out.1
    have := World.ownsRow.drew HO.out
    refine ⟨?_, this.frozenAt _⟩
    rw [this.cellAt (0 + i * 2 + j) (by omega), List.getElem?_eq_getElem (by omega)]
    rfl
  have hcl : (Builtin.clear_ #[31] 0 #[.slice (some ⟨g, (i + m) * 2, none⟩) (i + 1 + m - (i + m)) (cap - (i + m))]).run Try.prog (w.drew.setCells g (i * 2) (bcells L2)) = .ok (.tuple #[]) ((w.drew.setCells g (i * 2) (bcells L2)).setCells g ((i + m) * 2) [.int .i64 0, .int .i64 0]) := by
    rw [show i + 1 + m - (i + m) = 1 by omega]
    have := (own_setCells (bcells L2) (i * 2) _ _ (World.ownsRow.drew HO.out)).1
    have hl := this.1
    refine run_clear_one _ _ _ _ _ ?_ ?_ (this.frozenAt _) (this.frozenAt _)
    · rw [this.cellAt _ (by omega), List.getElem?_eq_getElem (by omega)]; rfl
    · rw [this.cellAt _ (by omega), List.getElem?_eq_getElem (by omega)]; rfl
  have HEND : Hid (((w.drew.setCells g (i * 2) (bcells L2)).setCells g ((i + m) * 2) [.int .i64 0, .int .i64 0]).ownsRow base 33 2 (.slice (some ⟨g, 0, none⟩) (i + m) cap) (i + m) (bcells (L1 ++ L2)) ∧ w.grownBy ((w.drew.setCells g (i * 2) (bcells L2)).setCells g ((i + m) * 2) [.int .i64 0, .int .i64 0]) (some g)) := by
    obtain ⟨h1, g1⟩ := own_setCells (bcells L2) (i * 2) _ _ (World.ownsRow.drew HO.out)
    obtain ⟨h2, g2⟩ := own_setCells [.int .i64 0, .int .i64 0] ((i + m) * 2) _ _ h1
    have h3 := own_take h2 (i := i + m) (by omega)
    have hd := del_cells L1 L2 x
    rw [hL1, hL2] at hd
    rw [hd] at h3
    have g0 : w.grownBy w.drew (some g) := ⟨rfl, rfl, rfl, Nat.le_refl _, fun _ _ _ => rfl⟩
    exact ⟨h3, grown_trans g0 (grown_trans g1 g2)⟩
  have HL1 : Hid (L1.length = i) := hL1
  have HL2 : Hid (L2.length = m) := hL2
  clear hL1 hL2
  have hic : i ≤ cap := by omega
  have hp0 : (0 : Int) ≤ (i : Int) + 1 := by omega
  have hp1 : (i : Int) + 1 ≤ (i : Int) + 1 + (m : Int) := by omega
  have hp2 : ((i : Int) + 1).toNat = i + 1 := by omega
  have hbb : ((i : Int) == (i : Int) + 1) = false := beq_eq_false_iff_ne.2 (by omega)
  go_enter Try.func16, Try.ntmps16
  go_wp2_with fail
  go_region_law (refine step_append_room rfl (.tmp 22) (.tmp 25) 31 rfl 33 i33 2 Try.underlying31 hi hz1 g 0 i cap (by simp [Act.eval, Act.put]) A m (cap - (i + 1)) (bcells L2) (by simp [Act.eval, Act.put]) s1.out hnews.out (bcells_one L2) (by omega) s3.out ?_)
  go_wp2
  go_ret
  exact ⟨rfl, HEND.out.1, HEND.out.2⟩
end Go.Proofs.Qxb6618350a
