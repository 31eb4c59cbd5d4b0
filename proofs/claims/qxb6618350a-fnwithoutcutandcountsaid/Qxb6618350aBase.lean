/-
  Shared small facts: rows of numbers, batches as cells.
-/
import Derived.Test.Qxb6618350aProg
import Derived.Test.Qxb6618350aMath
import Derived.WalkKit
import Derived.WalkSpells
import Derived.WalkLawsBesides
import Derived.KernelRfl
import Derived.RegionTactic
import Derived.BigRegion
import Derived.Deep.QuietTactic
import Derived.BigQuiet
import Derived.Laws.CopyOwn
namespace Go.Proofs.Qxb6618350a
open Go.RowKit

theorem Try.info3 : (Try.prog.info? 3).map (fun i => (i.zero, i.size, i.bytes)) = some (some (.int .i64 0), 1, 8) := by kernel_rfl
theorem Try.info33 : (Try.prog.info? 33).map (fun i => (i.zero, i.size, i.bytes)) = some (some (.agg #[.int .i64 0, .int .i64 0]), 2, 16) := by kernel_rfl
theorem Try.size3 : (Try.prog.info? 3).map (·.size) = some 1 := by kernel_rfl

/-- A slice of numbers, as the walks are told of it. -/
def IntRow (w : World) (ao : Option Addr) (n : Nat) (zs : List Int) : Prop :=
  zs.length = n ∧ (n = 0 ∨ ∃ b off, ao = some ⟨b, off, none⟩ ∧ ∀ j, j < n → w.cell? ⟨b, off + j, none⟩ = some (.int .i64 (zs.getD j 0)))

theorem IntRow.later {w w' : World} {ao : Option Addr} {n : Nat} {ss : List Int} (h : IntRow w ao n ss) (hb : Below w.heap.size w w') : IntRow w' ao n ss := by
  obtain ⟨h1, h2 | ⟨b, off, rfl, hc⟩⟩ := h
  · exact ⟨h1, .inl h2⟩
  · refine ⟨h1, .inr ⟨b, off, rfl, fun j hj => ?_⟩⟩
    exact (hb.cell (p := ⟨b, off + j, none⟩) (World.block_lt_of_cell? w _ (hc j hj))).trans (hc j hj)
theorem IntRow.later' {w' : World} {ao : Option Addr} {n : Nat} {ss : List Int} (w : World) (h : IntRow w ao n ss) (hb : Below w.heap.size w w') : IntRow w' ao n ss := h.later hb

theorem own_below {w w' : World} {b : Nat} {e : TypeId} {size : Nat} {v : Value} {n : Nat} {xs : List Value} (h : w.ownsRow b e size v n xs) (hb : Below w.heap.size w w') : w'.ownsRow b e size v n xs := by
  obtain ⟨h1, h2⟩ := h
  refine ⟨h1, ?_⟩
  rcases h2 with h2 | ⟨g, cap, cur, hv, hg, hh, r⟩
  · exact .inl h2
  · exact .inr ⟨g, cap, cur, hv, hg, by rw [hb.block g (lt_of_block hh)]; exact hh, r⟩
theorem own_base {w : World} {b b' : Nat} {e : TypeId} {size : Nat} {v : Value} {n : Nat} {xs : List Value} (h : w.ownsRow b e size v n xs) (hb : b' ≤ b) : w.ownsRow b' e size v n xs := by
  obtain ⟨h1, h2⟩ := h
  refine ⟨h1, ?_⟩
  rcases h2 with h2 | ⟨g, cap, cur, hv, hg, r⟩
  · exact .inl h2
  · exact .inr ⟨g, cap, cur, hv, Nat.le_trans hb hg, r⟩
theorem own_apart {w : World} {b b' : Nat} {e e' : TypeId} {size size' : Nat} {v v' : Value} {n n' : Nat} {xs xs' : List Value} (h : w.ownsRow b e size v n xs) (h' : w.ownsRow b' e' size' v' n' xs') (he : e ≠ e') : v.ownBlock = none ∨ v.ownBlock ≠ v'.ownBlock := by
  rcases h.2 with ⟨rfl, _⟩ | ⟨g, cap, cur, rfl, hg, hh, r⟩
  · exact .inl rfl
  · rcases h'.2 with ⟨rfl, _⟩ | ⟨g', cap', cur', rfl, hg', hh', r'⟩
    · exact .inr (by simp [Value.ownBlock])
    · refine .inr ?_
      simp only [Value.ownBlock, ne_eq, Option.some.injEq]
      rintro rfl
      rw [hh] at hh'
      simp at hh'
      exact he hh'.2
theorem grown_trans {a b c : World} {row : Option Nat} (h : a.grownBy b row) (k : b.grownBy c row) : a.grownBy c row :=
  ⟨k.os.trans h.os, k.tape.trans h.tape, k.output.trans h.output, Nat.le_trans h.size k.size, fun i hi hr => (k.block i (Nat.lt_of_lt_of_le hi h.size) hr).trans (h.block i hi hr)⟩
theorem below_drewN' {B : Nat} {a w : World} (h : Below B a w) (q : Nat) : Below B a (w.drewN q) := ⟨h.os, h.tape, h.output, h.size, h.block⟩

/-- n cells, of which the first k are f's, the rest z. -/
def part (f : Nat → Value) (z : Value) (n k : Nat) : List Value := (List.range n).map fun j => if j < k then f j else z
theorem part_length (f : Nat → Value) (z : Value) (n k : Nat) : (part f z n k).length = n := by simp [part]
theorem part_zero (f : Nat → Value) (z : Value) (n : Nat) : part f z n 0 = List.replicate n z := by
  apply List.ext_getElem?
  intro i
  by_cases h : i < n <;> simp [part, h]
theorem part_set (f : Nat → Value) (z : Value) (n k : Nat) : (part f z n k).set k (f k) = part f z n (k + 1) := by
  apply List.ext_getElem?
  intro i
  by_cases h : i < n
  · by_cases e : k = i
    · subst e; simp [part, h]
    · have : (i < k + 1) = (i < k) := by simp only [eq_iff_iff]; omega
      simp [part, h, e, this]
  · by_cases e : k = i
    · subst e; simp [part, h]
    · simp [part, h]
theorem part_full (f : Nat → Value) (z : Value) (n k : Nat) (h : n ≤ k) : part f z n k = (List.range n).map f := by
  unfold part
  apply List.map_congr_left
  intro j hj
  rw [List.mem_range] at hj
  rw [if_pos (by omega)]

def icell (zs : List Int) (j : Nat) : Value := .int .i64 (zs.getD j 0)
/-- A made row of numbers, filled, is a row of numbers. -/
theorem intRow_of {w : World} {base g n : Nat} {zs : List Int} (h : w.ownsRow base 3 1 (.slice (some ⟨g, 0, none⟩) n n) n ((List.range n).map (icell zs))) (hl : zs.length = n) : IntRow w (some ⟨g, 0, none⟩) n zs := by
  refine ⟨hl, .inr ⟨g, 0, rfl, fun j hj => ?_⟩⟩
  rw [Nat.zero_add, h.cellAt j (by omega)]
  simp [hj, icell]
theorem intRow_splice {w : World} {g n : Nat} {ss : List Int} {z : Value} (h : w.heap[g]? = some (.cells (splice (List.replicate n z) 0 ((List.range n).map (icell ss))).toArray 3 (0, 0))) (hl : ss.length = n) : IntRow w (some ⟨g, 0, none⟩) n ss := by
  refine ⟨hl, .inr ⟨g, 0, rfl, fun j hj => ?_⟩⟩
  have e : splice (List.replicate n z) 0 ((List.range n).map (icell ss)) = (List.range n).map (icell ss) := by simp [splice]
  rw [e] at h
  rw [Nat.zero_add, cell_of_row w g j _ 3 (0, 0) h]
  simp [hj, icell]
theorem made_row {w : World} {base g n : Nat} (h : w.ownsRow base 3 1 (.slice (some ⟨g, 0, none⟩) n n) n (List.replicate n (.int .i64 0))) : w.heap[g]? = some (.cells (List.replicate n (.int .i64 0)).toArray 3 (0, 0)) := by
  rcases h.2 with ⟨h', _⟩ | ⟨g', cap', cur, h', _, hg, _, _, hcs, htake⟩
  · simp at h'
  · simp only [Value.slice.injEq, Option.some.injEq, Addr.mk.injEq, and_true, true_and] at h'
    obtain ⟨rfl, rfl⟩ := h'
    rw [hg, ← htake]
    rw [List.take_of_length_le (by rw [Array.length_toList, hcs]; exact Nat.le_refl _)]
theorem icells_one (n : Nat) (ss : List Int) : ∀ v ∈ (List.range n).map (icell ss), v.oneCell' = true := by
  intro u hu
  obtain ⟨_, _, rfl⟩ := List.mem_map.1 hu
  rfl
theorem src_cells {w : World} {ao : Option Addr} {n : Nat} {ss : List Int} (h : IntRow w ao n ss) (g : Nat) : 0 < ((List.range n).map (icell ss)).length → (some (⟨g, 0, none⟩ : Addr) = some ⟨g, 0, none⟩) ∧ ∃ ad, ao = some ad ∧ ∀ j v, ((List.range n).map (icell ss))[j]? = some v → w.cell? (ad.add j) = some v := by
  intro hn
  simp at hn
  obtain ⟨h1, h2 | ⟨b, off, rfl, hc⟩⟩ := h
  · omega
  · refine ⟨rfl, _, rfl, fun j v hj => ?_⟩
    have hjn : j < n := by
      have := (List.getElem?_eq_some_iff.1 hj).1
      simpa using this
    simp [hjn] at hj
    subst hj
    rw [Addr.add_lit]
    exact hc j hjn

/-- Batches as the cells of a row. -/
def bcells (R : List (Int × Int)) : List Value := R.flatMap fun e => [.int .i64 e.1, .int .i64 e.2]
theorem length_bcells (R : List (Int × Int)) : (bcells R).length = R.length * 2 := by
  induction R with
  | nil => rfl
  | cons e E ih => simp only [bcells, List.flatMap_cons, List.length_append, List.length_cons, List.length_nil] at ih ⊢; omega
theorem bcells_append (E F : List (Int × Int)) : bcells (E ++ F) = bcells E ++ bcells F := by simp [bcells]
theorem bcells_at : ∀ (E : List (Int × Int)) (j : Nat) (e : Int × Int), E[j]? = some e → (bcells E)[j * 2]? = some (.int .i64 e.1) ∧ (bcells E)[j * 2 + 1]? = some (.int .i64 e.2)
  | [], j, e, h => by simp at h
  | f :: E, 0, e, h => by simp at h; subst h; exact ⟨rfl, rfl⟩
  | f :: E, j + 1, e, h => by
    have := bcells_at E j e (by simpa using h)
    have e1 : (j + 1) * 2 = j * 2 + 1 + 1 := by omega
    simp only [bcells, List.flatMap_cons, List.cons_append, List.nil_append, e1, List.getElem?_cons_succ] at this ⊢
    exact this
theorem bcells_set : ∀ (cur : List (Int × Int)) (a : Nat) (e : Int × Int), bcells (cur.set a e) = ((bcells cur).set (a * 2) (.int .i64 e.1)).set (a * 2 + 1) (.int .i64 e.2)
  | [], a, e => by simp [bcells]
  | f :: cur, 0, e => by simp [bcells]
  | f :: cur, a + 1, e => by
    have := bcells_set cur a e
    have e1 : (a + 1) * 2 = a * 2 + 1 + 1 := by omega
    simp only [bcells, List.set_cons_succ, List.flatMap_cons, List.cons_append, List.nil_append, e1] at this ⊢
    rw [this]
theorem bcells_take : ∀ (E : List (Int × Int)) (i : Nat), (bcells E).take (i * 2) = bcells (E.take i)
  | [], i => by simp [bcells]
  | e :: E, 0 => by simp [bcells]
  | e :: E, i + 1 => by
    have := bcells_take E i
    have e1 : (i + 1) * 2 = i * 2 + 1 + 1 := by omega
    simp only [bcells, List.flatMap_cons, List.cons_append, List.nil_append, e1, List.take_succ_cons] at this ⊢
    rw [this]
theorem bcells_drop : ∀ (E : List (Int × Int)) (i : Nat), (bcells E).drop (i * 2) = bcells (E.drop i)
  | [], i => by simp [bcells]
  | e :: E, 0 => by simp [bcells]
  | e :: E, i + 1 => by
    have := bcells_drop E i
    have e1 : (i + 1) * 2 = i * 2 + 1 + 1 := by omega
    simp only [bcells, List.flatMap_cons, List.cons_append, List.nil_append, e1, List.drop_succ_cons] at this ⊢
    rw [this]
theorem bcells_one (R : List (Int × Int)) : ∀ u ∈ bcells R, u.oneCell' = true := by
  intro u hu
  simp only [bcells, List.mem_flatMap] at hu
  obtain ⟨e, _, he⟩ := hu
  simp at he
  rcases he with rfl | rfl <;> rfl
end Go.Proofs.Qxb6618350a
