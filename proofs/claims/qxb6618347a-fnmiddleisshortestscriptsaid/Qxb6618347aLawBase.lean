/-
  Shared lemmas for the two laws' walks.
-/
import Derived.Test.Qxb6618347aZZ
import Derived.Laws.CopyOwn
namespace Go.Proofs.Qxb6618347a
open Go.RowKit

theorem StrRow.later {w w' : World} {ao : Option Addr} {n : Nat} {ss : List ByteArray} (h : StrRow w ao n ss) (hb : Below w.heap.size w w') : StrRow w' ao n ss := by
  obtain ⟨h1, h2 | ⟨b, off, rfl, hc⟩⟩ := h
  · exact ⟨h1, .inl h2⟩
  · refine ⟨h1, .inr ⟨b, off, rfl, fun j hj => ?_⟩⟩
    exact (hb.cell (p := ⟨b, off + j, none⟩) (World.block_lt_of_cell? w _ (hc j hj))).trans (hc j hj)

theorem StrRow.later' {w' : World} {ao : Option Addr} {n : Nat} {ss : List ByteArray} (w : World) (h : StrRow w ao n ss) (hb : Below w.heap.size w w') : StrRow w' ao n ss := h.later hb

theorem own_below {w w' : World} {b : Nat} {e : TypeId} {size : Nat} {v : Value} {n : Nat} {xs : List Value} (h : w.ownsRow b e size v n xs) (hb : Below w.heap.size w w') : w'.ownsRow b e size v n xs := by
  obtain ⟨h1, h2⟩ := h
  refine ⟨h1, ?_⟩
  rcases h2 with h2 | ⟨g, cap, cur, hv, hg, hh, r⟩
  · exact .inl h2
  · exact .inr ⟨g, cap, cur, hv, hg, by rw [hb.block g (lt_of_block hh)]; exact hh, r⟩

def scell (ss : List ByteArray) (j : Nat) : Value := .string (ss.getD j ByteArray.empty)

/-- A made row of strings, filled, is a row of strings. -/
theorem strRow_of {w : World} {base g n : Nat} {ss : List ByteArray} (h : w.ownsRow base 9 1 (.slice (some ⟨g, 0, none⟩) n n) n ((List.range n).map (scell ss))) (hl : ss.length = n) : StrRow w (some ⟨g, 0, none⟩) n ss := by
  refine ⟨hl, .inr ⟨g, 0, rfl, fun j hj => ?_⟩⟩
  rw [Nat.zero_add, h.cellAt j (by omega)]
  simp [hj, scell]

/-- A row that a copy has filled from end to end. -/
theorem strRow_splice {w : World} {g n : Nat} {ss : List ByteArray} {z : Value} (h : w.heap[g]? = some (.cells (splice (List.replicate n z) 0 ((List.range n).map (scell ss))).toArray 9 (0, 0))) (hl : ss.length = n) : StrRow w (some ⟨g, 0, none⟩) n ss := by
  refine ⟨hl, .inr ⟨g, 0, rfl, fun j hj => ?_⟩⟩
  have e : splice (List.replicate n z) 0 ((List.range n).map (scell ss)) = (List.range n).map (scell ss) := by simp [splice]
  rw [e] at h
  rw [Nat.zero_add, cell_of_row w g j _ 9 (0, 0) h]
  simp [hj, scell]

theorem made_row {w : World} {base g n : Nat} (h : w.ownsRow base 9 1 (.slice (some ⟨g, 0, none⟩) n n) n (List.replicate n (.string ByteArray.empty))) : w.heap[g]? = some (.cells (List.replicate n (.string ByteArray.empty)).toArray 9 (0, 0)) := by
  rcases h.2 with ⟨h', _⟩ | ⟨g', cap', cur, h', _, hg, _, _, hcs, htake⟩
  · simp at h'
  · simp only [Value.slice.injEq, Option.some.injEq, Addr.mk.injEq, and_true, true_and] at h'
    obtain ⟨rfl, rfl⟩ := h'
    rw [hg, ← htake]
    rw [List.take_of_length_le (by rw [Array.length_toList, hcs]; exact Nat.le_refl _)]

theorem scells_one (n : Nat) (ss : List ByteArray) : ∀ v ∈ (List.range n).map (scell ss), v.oneCell' = true := by
  intro u hu
  obtain ⟨_, _, rfl⟩ := List.mem_map.1 hu
  rfl
theorem src_cells {w : World} {ao : Option Addr} {n : Nat} {ss : List ByteArray} (h : StrRow w ao n ss) (g : Nat) : 0 < ((List.range n).map (scell ss)).length → (some (⟨g, 0, none⟩ : Addr) = some ⟨g, 0, none⟩) ∧ ∃ ad, ao = some ad ∧ ∀ j v, ((List.range n).map (scell ss))[j]? = some v → w.cell? (ad.add j) = some v := by
  intro hn
  simp at hn
  obtain ⟨h1, h2 | ⟨b, off, rfl, hc⟩⟩ := h
  · omega
  · refine ⟨rfl, _, rfl, fun j v hj => ?_⟩
    have hjn : j < n := by
      have := (List.getElem?_eq_some_iff.1 hj).1
      simpa using this
    simp [hjn] at hj
    subst hj
    rw [Addr.add_lit]
    exact hc j hjn

theorem zz_len (A B : List ByteArray) (n m : Nat) (hn : A.length = n) (hm : B.length = m) (ao bo : Option Addr) (ca cb : Nat) (w : World) (hA : StrRow w ao n A) (hB : StrRow w bo m B) (hN : n ≤ 4096) (hM : m ≤ 4096) :
    Calls Try.prog 7 #[.slice ao n ca, .slice bo m cb] w fun e w' =>
      ∃ (E : List (Int × ByteArray)) (gk gl : Nat), Script A B E ∧ e = .returned (.tuple #[.slice (some ⟨gk, 0, none⟩) E.length E.length, .slice (some ⟨gl, 0, none⟩) E.length E.length]) ∧
        w'.ownsRow w.heap.size 5 1 (.slice (some ⟨gk, 0, none⟩) E.length E.length) E.length ((List.range E.length).map (kcell E)) ∧
        w'.ownsRow w.heap.size 9 1 (.slice (some ⟨gl, 0, none⟩) E.length E.length) E.length ((List.range E.length).map (lcell E)) ∧ Below w.heap.size w w' := by
  subst hn; subst hm
  exact zz_any A B ao bo ca cb w hA hB hN hM

theorem cells_of_range {w : World} {base e g n : Nat} {f : Nat → Value} (h : w.ownsRow base e 1 (.slice (some ⟨g, 0, none⟩) n n) n ((List.range n).map f)) (j : Nat) (hj : j < n) : w.cell? ⟨g, j, none⟩ = some (f j) := by
  rw [h.cellAt j (by omega)]
  simp [hj]
theorem keep_cells (P : List ByteArray) (E : List (Int × ByteArray)) (j : Nat) (hj : j < P.length) : kcell (P.map (fun l => (32, l)) ++ E) j = .int .u8 32 ∧ lcell (P.map (fun l => (32, l)) ++ E) j = .string (P.getD j ByteArray.empty) := by
  have e : (P.map (fun l => ((32 : Int), l)) ++ E)[j]? = some (32, P[j]) := by rw [List.getElem?_append_left (by simpa using hj)]; simp [hj]
  simp [kcell, lcell, List.getD_eq_getElem?_getD, e, hj]
theorem tail_cells (P : List ByteArray) (E : List (Int × ByteArray)) (j : Nat) : kcell (P.map (fun l => (32, l)) ++ E) (P.length + j) = kcell E j ∧ lcell (P.map (fun l => (32, l)) ++ E) (P.length + j) = lcell E j := by
  have e : (P.map (fun l => ((32 : Int), l)) ++ E)[P.length + j]? = E[j]? := by rw [List.getElem?_append_right (by simp)]; simp
  simp [kcell, lcell, List.getD_eq_getElem?_getD, e]
end Go.Proofs.Qxb6618347a
