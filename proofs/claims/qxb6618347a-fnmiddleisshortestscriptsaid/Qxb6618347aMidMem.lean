/-
  What 'middle' (10) keeps in memory: lemmas outside the walk.
-/
import Derived.Test.Qxb6618347aBack
namespace Go.Proofs.Qxb6618347a
open Go.RowKit

/-- A smaller base serves too. -/
theorem own_base {w : World} {b b' : Nat} {e : TypeId} {size : Nat} {v : Value} {n : Nat} {xs : List Value} (h : w.ownsRow b e size v n xs) (hb : b' ≤ b) : w.ownsRow b' e size v n xs := by
  obtain ⟨h1, h2⟩ := h
  refine ⟨h1, ?_⟩
  rcases h2 with h2 | ⟨g, cap, cur, hv, hg, r⟩
  · exact .inl h2
  · exact .inr ⟨g, cap, cur, hv, Nat.le_trans hb hg, r⟩
/-- A row that owns something has a place. -/
theorem own_shape {w : World} {b : Nat} {e : TypeId} {size : Nat} {v : Value} {n : Nat} {xs : List Value} (h : w.ownsRow b e size v n xs) (hn : 0 < n) : ∃ g c, v = .slice (some ⟨g, 0, none⟩) n c ∧ b ≤ g ∧ ∃ cur, w.heap[g]? = some (.cells cur e (0, 0)) := by
  rcases h.2 with ⟨_, h2⟩ | ⟨g, cap, cur, hv, hg, hh, r⟩
  · omega
  · exact ⟨g, cap, hv, hg, cur, hh⟩
/-- Rows of different element types lie in different blocks. -/
theorem own_apart {w : World} {b b' : Nat} {e e' : TypeId} {size size' : Nat} {v v' : Value} {n n' : Nat} {xs xs' : List Value} (h : w.ownsRow b e size v n xs) (h' : w.ownsRow b' e' size' v' n' xs') (he : e ≠ e') : v.ownBlock = none ∨ v.ownBlock ≠ v'.ownBlock := by
  rcases h.2 with ⟨rfl, _⟩ | ⟨g, cap, cur, rfl, hg, hh, r⟩
  · exact .inl rfl
  · rcases h'.2 with ⟨rfl, _⟩ | ⟨g', cap', cur', rfl, hg', hh', r'⟩
    · exact .inr (by simp [Value.ownBlock])
    · refine .inr ?_
      simp only [Value.ownBlock, ne_eq, Option.some.injEq]
      rintro rfl
      rw [hh] at hh'
      simp at hh'
      exact he hh'.2

/-- One row of the trace. -/
def TRow (A B : List ByteArray) (gv d : Nat) (x : Value) (w : World) : Prop :=
  ∃ (g c : Nat) (xs : List Int), x = .slice (some ⟨g, 0, none⟩) (2 * d + 3) c ∧ w.ownsRow (gv + 1) 3 1 (.slice (some ⟨g, 0, none⟩) (2 * d + 3) c) (2 * d + 3) (xs.map (Value.int .i64)) ∧ ∀ k, U d k → xs[(k + d + 1).toNat]? = some (G A B d k)

structure Mem (A B : List ByteArray) (w0 w : World) (ge ce gv n d : Nat) (tv : Value) (vl : List Int) : Prop where
  below : Below ge w0 w
  ed : w.ownsRow ge 33 2 (.slice (some ⟨ge, 0, none⟩) 0 ce) 0 []
  v : w.ownsRow gv 3 1 (.slice (some ⟨gv, 0, none⟩) n n) n (vl.map (Value.int .i64))
  tr : ∃ tc, w.ownsRow (gv + 1) 34 1 tv d tc ∧ ∀ d', d' < d → ∃ x, tc[d']? = some x ∧ TRow A B gv d' x w
  lt : ge < gv

theorem TRow.kept {A B : List ByteArray} {gv d : Nat} {x : Value} {w w' : World} {row : Option Nat} (h : TRow A B gv d x w) (hg : w.grownBy w' row) (hr : ∀ k, row = some k → k ≤ gv) : TRow A B gv d x w' := by
  obtain ⟨g, c, xs, rfl, ho, hk⟩ := h
  refine ⟨g, c, xs, rfl, ho.kept hg (.inr ?_), hk⟩
  intro e
  have h1 := (ho.lt g rfl).1
  have h2 := hr g (by rw [← e]; rfl)
  omega

variable {A B : List ByteArray} {w0 w : World} {ge ce gv n d : Nat} {tv : Value} {vl : List Int}

/-- A step that writes v's row alone, or nothing that was there. -/
theorem Mem.kept {w' : World} (m : Mem A B w0 w ge ce gv n d tv vl) (hg : w.grownBy w' (some gv)) {vl' : List Int} (hv : w'.ownsRow gv 3 1 (.slice (some ⟨gv, 0, none⟩) n n) n (vl'.map (Value.int .i64))) : Mem A B w0 w' ge ce gv n d tv vl' := by
  have hl := m.lt
  have hsz := (m.v.lt gv rfl).2
  refine ⟨m.below.grown hg (by omega) (by rintro k ⟨⟩; omega), m.ed.kept hg (.inr (by simp [Value.ownBlock]; omega)), hv, ?_, hl⟩
  obtain ⟨tc, ht, hr⟩ := m.tr
  refine ⟨tc, ht.kept hg ?_, fun d' hd => ?_⟩
  · by_cases hn : tv.ownBlock = none
    · exact .inl hn
    · refine .inr fun e => ?_
      have := (ht.lt gv e).1
      omega
  · obtain ⟨x, hx, h⟩ := hr d' hd
    exact ⟨x, hx, h.kept hg (by rintro k ⟨⟩; exact Nat.le_refl _)⟩

theorem Mem.drewN (m : Mem A B w0 w ge ce gv n d tv vl) (q : Nat) : Mem A B w0 (w.drewN q) ge ce gv n d tv vl :=
  m.kept (w' := w.drewN q) ⟨rfl, rfl, rfl, Nat.le_refl _, fun _ _ _ => rfl⟩ m.v

theorem Mem.set (m : Mem A B w0 w ge ce gv n d tv vl) (j : Nat) (x : Int) : Mem A B w0 (w.setCell ⟨gv, j, none⟩ (.int .i64 x)) ge ce gv n d tv (vl.set j x) := by
  obtain ⟨h, hg⟩ := m.v.stored j (.int .i64 x)
  refine m.kept hg ?_
  rw [List.map_set]; exact h

theorem Mem.vlen (m : Mem A B w0 w ge ce gv n d tv vl) : vl.length = n := by
  have := m.v.1
  simpa using this
theorem Mem.cell (m : Mem A B w0 w ge ce gv n d tv vl) (j : Nat) (h : j < n) : w.cell? ⟨gv, j, none⟩ = some (.int .i64 (vl.getD j 0)) := by
  rw [m.v.cellAt j (by omega)]
  simp [List.getD, m.vlen, h]
theorem Mem.free (m : Mem A B w0 w ge ce gv n d tv vl) (j : Nat) : w.frozen? ⟨gv, j, none⟩ = false := m.v.frozenAt j

/-- The copy of a part of v, boxed, appended to the trace. -/
theorem Mem.push {w1 w3 : World} {x tv' : Value} {xs : List Int} {o : Obj} (m : Mem A B w0 w ge ce gv n d tv vl)
    (h1 : w1.ownsRow w.heap.size 3 1 x (2 * d + 3) (xs.map (Value.int .i64))) (g1 : w.grownBy w1 none)
    (tc : List Value) (ht : w.ownsRow (gv + 1) 34 1 tv d tc) (hr : ∀ d', d' < d → ∃ x, tc[d']? = some x ∧ TRow A B gv d' x w)
    (h3 : w3.ownsRow (gv + 1) 34 1 tv' (d + 1) (tc ++ [x])) (g3 : (w1.alloc o).grownBy w3 tv.ownBlock)
    (hk : ∀ k, U d k → xs[(k + d + 1).toNat]? = some (G A B d k)) : Mem A B w0 w3 ge ce gv n (d + 1) tv' vl := by
  have hl := m.lt
  have hsz := (m.v.lt gv rfl).2
  have ht1 := ht.kept g1 (by cases h : tv.ownBlock with | none => exact .inl rfl | some k => exact .inr (by simp))
  -- everything at w1.alloc o
  have ga : w.grownBy (w1.alloc o) none := grown_trans g1 (World.grownBy_alloc w1 o none)
  have htv : ∀ k, tv.ownBlock = some k → gv + 1 ≤ k := fun k hk => (ht.lt k hk).1
  have hrow : ∀ {b : Nat} {e : TypeId} {s : Nat} {u : Value} {q : Nat} {ys : List Value}, w.ownsRow b e s u q ys → (u.ownBlock = none ∨ u.ownBlock ≠ tv.ownBlock) → w3.ownsRow b e s u q ys := by
    intro b e s u q ys hu hne
    exact (hu.kept ga (by cases h : u.ownBlock with | none => exact .inl rfl | some k => exact .inr (by simp))).kept g3 hne
  refine ⟨?_, hrow m.ed ?_, hrow m.v ?_, ?_, hl⟩
  · exact (m.below.grown ga (by omega) (by rintro k ⟨⟩)).grown g3 (by have := ga.size; omega) (fun k hk => by have := htv k hk; omega)
  · refine .inr fun e => ?_
    have := htv ge (by rw [← e]; rfl); omega
  · refine .inr fun e => ?_
    have := htv gv (by rw [← e]; rfl); omega
  · refine ⟨_, h3, fun d' hd => ?_⟩
    by_cases hdd : d' < d
    · obtain ⟨y, hy, g, c, ys, rfl, ho, hu⟩ := hr d' hdd
      have hlt : d' < tc.length := by
        have := ht.1; omega
      exact ⟨_, by rw [List.getElem?_append_left hlt]; exact hy, g, c, ys, rfl, hrow ho (own_apart ho ht (by decide)), hu⟩
    · obtain rfl : d' = d := by omega
      have hlt : tc.length = d' := by have := ht.1; omega
      obtain ⟨g, c, rfl, hg, cur, _⟩ := own_shape h1 (by omega)
      refine ⟨.slice (some ⟨g, 0, none⟩) (2 * d' + 3) c, ?_, g, c, xs, rfl, ?_, hk⟩
      · rw [List.getElem?_append_right (by omega), hlt]; simp
      have h1a := h1.alloc o
      refine own_base (h1a.kept g3 ?_) (b' := gv + 1) (by omega)
      refine .inr fun e => ?_
      have hx := (ht.lt g (by rw [← e]; rfl)).2
      omega

theorem Mem.trace (m : Mem A B w0 w ge ce gv n (d + 1) tv vl) : ∃ gt ct, tv = .slice (some ⟨gt, 0, none⟩) (d + 1) ct ∧ Trace A B d gt ge w := by
  obtain ⟨tc, ht, hr⟩ := m.tr
  have hl := m.lt
  obtain ⟨gt, ct, rfl, hg, cur, _⟩ := own_shape ht (by omega)
  refine ⟨gt, ct, rfl, by omega, fun d' hd => ?_⟩
  obtain ⟨x, hx, g, c, xs, rfl, ho, hu⟩ := hr d' (by omega)
  have hg' := (ho.lt g rfl).1
  refine ⟨g, c, by omega, by rw [ht.cellAt d' (by omega)]; exact hx, fun k hk => ?_⟩
  have hxs := hu k hk
  have hb : (k + d' + 1).toNat < (2 * d' + 3) := by
    have := (List.getElem?_eq_some_iff.1 hxs).1
    have h2 := ho.1
    simp at h2
    omega
  rw [ho.cellAt _ (by omega)]
  simp [hxs]

end Go.Proofs.Qxb6618347a
