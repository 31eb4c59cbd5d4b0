/-
  Walks of zzRemovals (14), zzTagRows (16).
-/
import Derived.Test.Qxb6618378aBase
import Derived.OwnWalk
import Derived.Laws.OwnMore
import Derived.Lib.BufferMore
namespace Go.Proofs.Qxb6618378a
open Go.RowKit

/-- What a copied row of rows is good for. -/
def FilledTo (w : World) (b off k : Nat) (xs : List Value) : Prop := ∀ j, j < k → ∃ v, w.cell? ⟨b, off + j, none⟩ = some v ∧ xs[j]? = some v

theorem FilledTo.next {w : World} {b off k : Nat} {xs : List Value} {v : Value} (h : FilledTo w b off k xs) (hl : k < xs.length) (hv : w.cell? ⟨b, off + k, none⟩ = some v) : FilledTo w b off (k + 1) (xs.set k v) := by
  intro j hj
  by_cases e : j = k
  · subst e
    exact ⟨v, hv, by simp [hl]⟩
  · obtain ⟨u, h1, h2⟩ := h j (by omega)
    exact ⟨u, h1, by rw [List.getElem?_set_ne (fun e' => e e'.symm)]; exact h2⟩

theorem FilledTo.rows {w w' : World} {b off n g base : Nat} {e : TypeId} {xs : List Value} {X : List (List (Int × Int))} (h : FilledTo w b off n xs) (hX : Rows2 w (some ⟨b, off, none⟩) n X) (hown : w'.ownsRow base e 1 (.slice (some ⟨g, 0, none⟩) n n) n xs)
    (hb : Below w.heap.size w w') : Rows2 w' (some ⟨g, 0, none⟩) n X := by
  obtain ⟨h1, h2⟩ := hX
  refine ⟨h1, ?_⟩
  rcases h2 with h2 | ⟨b', off', he, hc⟩
  · exact .inl h2
  · simp only [Option.some.injEq, Addr.mk.injEq, and_true] at he
    obtain ⟨rfl, rfl⟩ := he
    refine .inr ⟨g, 0, rfl, fun j hj => ?_⟩
    obtain ⟨ao, m, c, c1, c2⟩ := hc j hj
    obtain ⟨v, v1, v2⟩ := h j hj
    rw [c1] at v1
    simp only [Option.some.injEq] at v1
    subst v1
    exact ⟨ao, m, c, by rw [Nat.zero_add, hown.cellAt j (by omega)]; exact v2, c2.later hb⟩


set_option maxHeartbeats 1000000 in
theorem removals_any (vo : Option Addr) (n c : Nat) (X : List (List (Int × Int))) (w : World) (hX : Rows2 w vo n X) (hn : n ≤ 1048576) :
    Calls Try.prog 14 #[.slice vo n c] w fun e w' => ∃ vo' c', e = .returned (.slice vo' n c') ∧ n ≤ c' ∧ Rows2 w' vo' n X ∧ Below w.heap.size w w' := by
  obtain ⟨i, hi, z0, z1, z2⟩ := info_parts Try.info49
  have HX : Hid (Rows2 w vo n X) := hX
  cases vo with
  | none =>
    obtain rfl : n = 0 := by
      rcases hX.2 with h | ⟨_, _, h, _⟩
      · exact h
      · cases h
    clear hX
    have hnil : ∀ W, (binOp .eql 28 (.slice none 0 c) (.slice none 0 0)).run Try.prog W = .ok (.bool true) W := fun W => Lib.run_eql_slice_nil_nil W _ _ Try.underlying28
    go_enter Try.func14, Try.ntmps14
    go_wp2
    go_ret
    exact ⟨none, 0, rfl, Nat.le_refl _, HX.out, Below.refl _ _⟩
  | some ad =>
    clear hX
    have hnil : ∀ W, (binOp .eql 28 (.slice (some ad) n c) (.slice none 0 0)).run Try.prog W = .ok (.bool false) W := fun W => Lib.run_eql_slice_some_nil W _ _ _ Try.underlying28
    go_enter Try.func14, Try.ntmps14
    go_wp2_with (at_make; refine wpList_make_full _ rfl _ _ 38 rfl w.heap.size 49 i _ 1 Try.underlying38 hi z0 z1 _ _ _ _ n rfl rfl (by omega) (by omega) (by rw [z2]; omega) (by unfold maxLen; omega) (Nat.le_refl _) ?_)
    intro w2 hk hg2
    have hb2 : Below w.heap.size w w2 := (Below.refl _ _).grown hg2 (Nat.le_refl _) (by rintro k ⟨⟩)
    clear hg2 hnil
    go_wp2
    go_loopw [4] (fun i wr => ∃ (k : Nat) (xs : List Value), k ≤ n ∧ i = .int .i64 k ∧ wr.ownsRow w.heap.size 49 1 (.slice (some ⟨w.heap.size, 0, none⟩) n n) n xs ∧ Hid (∃ b off, (n = 0 ∨ ad = ⟨b, off, none⟩) ∧ FilledTo w b off k xs) ∧ Below w.heap.size w wr) (fun i _ => n - (intOf i).toNat)
    case atStart => 
      refine ⟨0, _, Nat.zero_le _, rfl, hk, ?_, hb2⟩
      rcases HX.out.2 with h | ⟨b, off, h, _⟩
      · exact ⟨0, 0, .inl h, fun j hj => by omega⟩
      · exact ⟨b, off, .inr (by injection h), fun j hj => by omega⟩
    case round =>
      obtain ⟨k, xs, hkn, rfl, hown, hfill, hbel⟩ := hrel
      clear hk hb2
      by_cases hlt : k < n
      · obtain ⟨_, h | ⟨b, off, had, hc⟩⟩ := HX.out.later hbel
        · omega
        injection had with had
        subst had
        obtain ⟨b', off', hor, hf⟩ := hfill.out
        have hbo : b' = b ∧ off' = off := by
          rcases hor with h | h
          · omega
          · simp only [Addr.mk.injEq, and_true] at h; exact ⟨h.1.symm, h.2.symm⟩
        obtain ⟨rfl, rfl⟩ := hbo
        obtain ⟨ao, m, c', c1, _⟩ := hc k hlt
        have hl : k < xs.length := by rw [hown.1]; omega
        obtain ⟨y1, q1⟩ : ∃ u, wr.cell? ⟨w.heap.size, k, none⟩ = some u := ⟨_, (hown.cellAt k (by omega)).trans (List.getElem?_eq_getElem hl)⟩
        have f1 := hown.frozenAt k
        obtain ⟨o1, g1⟩ := hown.stored k (.slice ao m c')
        have hb1 := hbel.grown g1 hbel.size (by rintro k ⟨⟩; exact Nat.le_refl _)
        have HF : Hid (∃ b off, (n = 0 ∨ (⟨b', off', none⟩ : Addr) = ⟨b, off, none⟩) ∧ FilledTo w b off (k + 1) (xs.set k (.slice ao m c'))) := by
          refine ⟨b', off', .inr rfl, hf.next hl ?_⟩
          obtain ⟨_, h | ⟨b2, off2, had2, hc2⟩⟩ := HX.out
          · omega
          simp only [Option.some.injEq, Addr.mk.injEq, and_true] at had2
          obtain ⟨rfl, rfl⟩ := had2
          obtain ⟨ao2, m2, c2, d1, _⟩ := hc2 k hlt
          have := hbel.cell (p := ⟨b', off' + k, none⟩) (World.block_lt_of_cell? w _ d1)
          rw [← this]; exact c1
        clear hc hown hbel g1 hf hfill hor hl
        go_wp2
        go_roundw
        case rel => exact ⟨k + 1, _, by omega, by go_num, o1, HF, hb1⟩
        case measure => simp [intOf]; omega
      · have hkp : k = n := by omega
        go_wp2
        go_ret
        obtain ⟨b, off, hor, hf⟩ := hfill.out
        refine ⟨_, _, rfl, Nat.le_refl _, ?_, hbel⟩
        rw [hkp] at hf
        rcases hor with h | rfl
        · exact ⟨HX.out.1, .inl h⟩
        · exact hf.rows HX.out hown hbel

set_option maxHeartbeats 1000000 in
theorem tagrows_any (vo : Option Addr) (n c : Nat) (X : List (List (Int × Int))) (w : World) (hX : Rows2 w vo n X) (hn : n ≤ 1048576) :
    Calls Try.prog 16 #[.slice vo n c] w fun e w' => ∃ vo' c', e = .returned (.slice vo' n c') ∧ Rows2 w' vo' n X ∧ Below w.heap.size w w' := by
  obtain ⟨i, hi, z0, z1, z2⟩ := info_parts Try.info34
  have HX : Hid (Rows2 w vo n X) := hX
  cases vo with
  | none =>
    obtain rfl : n = 0 := by
      rcases hX.2 with h | ⟨_, _, h, _⟩
      · exact h
      · cases h
    clear hX
    have hnil : ∀ W, (binOp .eql 38 (.slice none 0 c) (.slice none 0 0)).run Try.prog W = .ok (.bool true) W := fun W => Lib.run_eql_slice_nil_nil W _ _ Try.underlying38
    go_enter Try.func16, Try.ntmps16
    go_wp2
    go_ret
    exact ⟨none, 0, rfl, HX.out, Below.refl _ _⟩
  | some ad =>
    clear hX
    have hnil : ∀ W, (binOp .eql 38 (.slice (some ad) n c) (.slice none 0 0)).run Try.prog W = .ok (.bool false) W := fun W => Lib.run_eql_slice_some_nil W _ _ _ Try.underlying38
    go_enter Try.func16, Try.ntmps16
    go_wp2_with (at_make; refine wpList_make_full _ rfl _ _ 28 rfl w.heap.size 34 i _ 1 Try.underlying28 hi z0 z1 _ _ _ _ n rfl rfl (by omega) (by omega) (by rw [z2]; omega) (by unfold maxLen; omega) (Nat.le_refl _) ?_)
    intro w2 hk hg2
    have hb2 : Below w.heap.size w w2 := (Below.refl _ _).grown hg2 (Nat.le_refl _) (by rintro k ⟨⟩)
    clear hg2 hnil
    go_wp2
    go_loopw [4] (fun i wr => ∃ (k : Nat) (xs : List Value), k ≤ n ∧ i = .int .i64 k ∧ wr.ownsRow w.heap.size 34 1 (.slice (some ⟨w.heap.size, 0, none⟩) n n) n xs ∧ Hid (∃ b off, (n = 0 ∨ ad = ⟨b, off, none⟩) ∧ FilledTo w b off k xs) ∧ Below w.heap.size w wr) (fun i _ => n - (intOf i).toNat)
    case atStart => 
      refine ⟨0, _, Nat.zero_le _, rfl, hk, ?_, hb2⟩
      rcases HX.out.2 with h | ⟨b, off, h, _⟩
      · exact ⟨0, 0, .inl h, fun j hj => by omega⟩
      · exact ⟨b, off, .inr (by injection h), fun j hj => by omega⟩
    case round =>
      obtain ⟨k, xs, hkn, rfl, hown, hfill, hbel⟩ := hrel
      clear hk hb2
      by_cases hlt : k < n
      · obtain ⟨_, h | ⟨b, off, had, hc⟩⟩ := HX.out.later hbel
        · omega
        injection had with had
        subst had
        obtain ⟨b', off', hor, hf⟩ := hfill.out
        have hbo : b' = b ∧ off' = off := by
          rcases hor with h | h
          · omega
          · simp only [Addr.mk.injEq, and_true] at h; exact ⟨h.1.symm, h.2.symm⟩
        obtain ⟨rfl, rfl⟩ := hbo
        obtain ⟨ao, m, c', c1, _⟩ := hc k hlt
        have hl : k < xs.length := by rw [hown.1]; omega
        obtain ⟨y1, q1⟩ : ∃ u, wr.cell? ⟨w.heap.size, k, none⟩ = some u := ⟨_, (hown.cellAt k (by omega)).trans (List.getElem?_eq_getElem hl)⟩
        have f1 := hown.frozenAt k
        obtain ⟨o1, g1⟩ := hown.stored k (.slice ao m c')
        have hb1 := hbel.grown g1 hbel.size (by rintro k ⟨⟩; exact Nat.le_refl _)
        have HF : Hid (∃ b off, (n = 0 ∨ (⟨b', off', none⟩ : Addr) = ⟨b, off, none⟩) ∧ FilledTo w b off (k + 1) (xs.set k (.slice ao m c'))) := by
          refine ⟨b', off', .inr rfl, hf.next hl ?_⟩
          obtain ⟨_, h | ⟨b2, off2, had2, hc2⟩⟩ := HX.out
          · omega
          simp only [Option.some.injEq, Addr.mk.injEq, and_true] at had2
          obtain ⟨rfl, rfl⟩ := had2
          obtain ⟨ao2, m2, c2, d1, _⟩ := hc2 k hlt
          have := hbel.cell (p := ⟨b', off' + k, none⟩) (World.block_lt_of_cell? w _ d1)
          rw [← this]; exact c1
        clear hc hown hbel g1 hf hfill hor hl
        go_wp2
        go_roundw
        case rel => exact ⟨k + 1, _, by omega, by go_num, o1, HF, hb1⟩
        case measure => simp [intOf]; omega
      · have hkp : k = n := by omega
        go_wp2
        go_ret
        obtain ⟨b, off, hor, hf⟩ := hfill.out
        refine ⟨_, _, rfl, ?_, hbel⟩
        rw [hkp] at hf
        rcases hor with h | rfl
        · exact ⟨HX.out.1, .inl h⟩
        · exact hf.rows HX.out hown hbel
end Go.Proofs.Qxb6618378a
