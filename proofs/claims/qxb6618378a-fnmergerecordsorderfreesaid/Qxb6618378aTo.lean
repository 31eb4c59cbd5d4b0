/-
  Walk of zzToOrset (8).
-/
import Derived.Test.Qxb6618378aCopy
namespace Go.Proofs.Qxb6618378a
open Go.RowKit

/-- The rows made so far, in a row of block g: k of them stand, the others are nil. -/
def MadeTo (w : World) (g n k : Nat) (X : List (List (Int × Int))) (xs : List Value) : Prop :=
  (∀ j, j < k → ∃ ao m c, xs[j]? = some (.slice ao m c) ∧ TagRow w ao m (X.getD j []) ∧ ∀ ad, ao = some ad → ad.block ≠ g) ∧ ∀ j, k ≤ j → j < n → xs[j]? = some (.slice none 0 0)

theorem TagRow.kept {w w' : World} {ao : Option Addr} {n g : Nat} {T : List (Int × Int)} (h : TagRow w ao n T) (hg : w.grownBy w' (some g)) (hne : ∀ ad, ao = some ad → ad.block ≠ g) : TagRow w' ao n T := by
  obtain ⟨h1, h2 | ⟨b, off, rfl, hc⟩⟩ := h
  · exact ⟨h1, .inl h2⟩
  · refine ⟨h1, .inr ⟨b, off, rfl, fun j hj => ?_⟩⟩
    obtain ⟨c1, c2⟩ := hc j hj
    have hb : some b ≠ some g := by simpa using hne _ rfl
    exact ⟨hg.cell c1 hb, hg.cell c2 hb⟩

theorem MadeTo.later {w w' : World} {g n k : Nat} {X : List (List (Int × Int))} {xs : List Value} (h : MadeTo w g n k X xs) (hb : Below w.heap.size w w') : MadeTo w' g n k X xs := by
  refine ⟨fun j hj => ?_, h.2⟩
  obtain ⟨ao, m, c, h1, h2, h3⟩ := h.1 j hj
  exact ⟨ao, m, c, h1, h2.later hb, h3⟩

theorem MadeTo.next {w w' : World} {g n k : Nat} {X : List (List (Int × Int))} {xs : List Value} (h : MadeTo w g n k X xs) (hl : k < xs.length) (ao : Option Addr) (m c : Nat) (hT : TagRow w ao m (X.getD k [])) (hne : ∀ ad, ao = some ad → ad.block ≠ g)
    (hg : w.grownBy w' (some g)) : MadeTo w' g n (k + 1) X (xs.set k (.slice ao m c)) := by
  constructor
  · intro j hj
    by_cases e : j = k
    · subst e
      exact ⟨ao, m, c, by simp [hl], hT.kept hg hne, hne⟩
    · obtain ⟨ao', m', c', h1, h2, h3⟩ := h.1 j (by omega)
      exact ⟨ao', m', c', by rw [List.getElem?_set_ne (fun e' => e e'.symm)]; exact h1, h2.kept hg h3, h3⟩
  · intro j h1 h2
    rw [List.getElem?_set_ne (by omega)]
    exact h.2 j (by omega) h2

theorem MadeTo.skip {w : World} {g n k : Nat} {X : List (List (Int × Int))} {xs : List Value} (h : MadeTo w g n k X xs) (hk : k < n) (hT : X.getD k [] = []) : MadeTo w g n (k + 1) X xs := by
  constructor
  · intro j hj
    by_cases e : j = k
    · subst e
      exact ⟨none, 0, 0, h.2 j (Nat.le_refl _) hk, ⟨by rw [hT]; rfl, .inl rfl⟩, by rintro ad ⟨⟩⟩
    · exact h.1 j (by omega)
  · intro j h1 h2
    exact h.2 j (by omega) h2

theorem MadeTo.rows {w : World} {g n base : Nat} {e : TypeId} {X : List (List (Int × Int))} {xs : List Value} (h : MadeTo w g n n X xs) (hX : X.length = n) (hown : w.ownsRow base e 1 (.slice (some ⟨g, 0, none⟩) n n) n xs) : Rows2 w (some ⟨g, 0, none⟩) n X := by
  refine ⟨hX, .inr ⟨g, 0, rfl, fun j hj => ?_⟩⟩
  obtain ⟨ao, m, c, h1, h2, _⟩ := h.1 j hj
  exact ⟨ao, m, c, by rw [Nat.zero_add, hown.cellAt j (by omega)]; exact h1, h2⟩

/-- The tags written so far, in a row of two cells each. -/
def TagsTo (k : Nat) (T : List (Int × Int)) (xs : List Value) : Prop := ∀ j, j < k → xs[j * 2]? = some (.int .u64 (T.getD j (0, 0)).1) ∧ xs[j * 2 + 1]? = some (.int .u64 (T.getD j (0, 0)).2)

theorem TagsTo.next {k : Nat} {T : List (Int × Int)} {xs : List Value} (h : TagsTo k T xs) (hl : k * 2 + 1 < xs.length) : TagsTo (k + 1) T ((xs.set (k * 2) (.int .u64 (T.getD k (0, 0)).1)).set (k * 2 + 1) (.int .u64 (T.getD k (0, 0)).2)) := by
  intro j hj
  by_cases e : j = k
  · subst e
    refine ⟨?_, ?_⟩
    · rw [List.getElem?_set_ne (by omega), List.getElem?_set_self (by omega)]
    · rw [List.getElem?_set_self (by simp; omega)]
  · obtain ⟨h1, h2⟩ := h j (by omega)
    refine ⟨?_, ?_⟩
    · rw [List.getElem?_set_ne (by omega), List.getElem?_set_ne (by omega)]; exact h1
    · rw [List.getElem?_set_ne (by omega), List.getElem?_set_ne (by omega)]; exact h2

theorem TagsTo.row {w : World} {g n base : Nat} {e : TypeId} {T : List (Int × Int)} {xs : List Value} (h : TagsTo n T xs) (hT : T.length = n) (hown : w.ownsRow base e 2 (.slice (some ⟨g, 0, none⟩) n n) n xs) : TagRow w (some ⟨g, 0, none⟩) n T := by
  refine ⟨hT, .inr ⟨g, 0, rfl, fun j hj => ?_⟩⟩
  obtain ⟨h1, h2⟩ := h j hj
  refine ⟨?_, ?_⟩
  · rw [Nat.zero_add, hown.cellAt _ (by omega)]; exact h1
  · rw [Nat.zero_add, hown.cellAt _ (by omega)]; exact h2

theorem own_drew_below {w w' : World} {b : Nat} {e : TypeId} {size : Nat} {v : Value} {n : Nat} {xs : List Value} (h : w.ownsRow b e size v n xs) (hb : Below w.heap.size w w') : w'.ownsRow b e size v n xs := own_below h hb

set_option maxHeartbeats 2000000 in
set_option maxRecDepth 100000 in
theorem to_any (vo : Option Addr) (n c : Nat) (X : List (List (Int × Int))) (w : World) (hX : Rows2 w vo n X) (hn : n ≤ 1048576) (lX : ∀ j, j < n → (X.getD j []).length ≤ 1048576) :
    Calls Try.prog 8 #[.slice vo n c] w fun e w' => ∃ vo' c', e = .returned (.slice vo' n c') ∧ Rows2 w' vo' n X ∧ Below w.heap.size w w' := by
  obtain ⟨i, hi, z0, z1, z2⟩ := info_parts Try.info34
  obtain ⟨i', hi', y0, y1, y2⟩ := info_parts Try.info45
  have HX : Hid (Rows2 w vo n X) := hX
  have HL : Hid (∀ j, j < n → (X.getD j []).length ≤ 1048576) := lX
  clear lX
  cases vo with
  | none =>
    obtain rfl : n = 0 := by
      rcases hX.2 with h | ⟨_, _, h, _⟩
      · exact h
      · cases h
    clear hX
    have hnil : ∀ W, (binOp .eql 23 (.slice none 0 c) (.slice none 0 0)).run Try.prog W = .ok (.bool true) W := fun W => Lib.run_eql_slice_nil_nil W _ _ Try.underlying23
    go_enter Try.func8, Try.ntmps8
    go_wp2
    go_ret
    exact ⟨none, 0, rfl, HX.out, Below.refl _ _⟩
  | some ad =>
    clear hX
    have hnil : ∀ W, (binOp .eql 23 (.slice (some ad) n c) (.slice none 0 0)).run Try.prog W = .ok (.bool false) W := fun W => Lib.run_eql_slice_some_nil W _ _ _ Try.underlying23
    go_enter Try.func8, Try.ntmps8
    go_wp2_with (at_make; refine wpList_make_full _ rfl _ _ 28 rfl w.heap.size 34 i _ 1 Try.underlying28 hi z0 z1 _ _ _ _ n rfl rfl (by omega) (by omega) (by rw [z2]; omega) (by unfold maxLen; omega) (Nat.le_refl _) ?_)
    intro w2 hk hg2
    have hb2 : Below w.heap.size w w2 := (Below.refl _ _).grown hg2 (Nat.le_refl _) (by rintro k ⟨⟩)
    have hk' : w2.ownsRow w.heap.size 34 1 (.slice (some ⟨w.heap.size, 0, none⟩) n n) n (List.replicate n (.slice none 0 0)) := by simpa [toList_madeCells_one, Value.cells] using hk
    clear hg2 hnil hk
    go_wp2
    go_loopw [4] (fun i wr => ∃ (k : Nat) (xs : List Value), k ≤ n ∧ i = .int .i64 k ∧ wr.ownsRow w.heap.size 34 1 (.slice (some ⟨w.heap.size, 0, none⟩) n n) n xs ∧ Hid (MadeTo wr w.heap.size n k X xs) ∧ Below w.heap.size w wr) (fun i _ => n - (intOf i).toNat)
    case atStart =>
      refine ⟨0, _, Nat.zero_le _, rfl, hk', ?_, hb2⟩
      exact ⟨fun j hj => by omega, fun j _ hj => by simp [hj]⟩
    case round =>
      obtain ⟨k, xs, hkn, rfl, hown, hmade, hbel⟩ := hrel
      clear hk' hb2
      by_cases hlt : k < n
      · obtain ⟨_, h | ⟨b, off, had, hc⟩⟩ := HX.out.later hbel
        · omega
        injection had with had
        subst had
        obtain ⟨ao, m, c', c1, hT⟩ := hc k hlt
        obtain ⟨w1, rfl⟩ : ∃ w1 : World, w1 = wr := ⟨_, rfl⟩
        have hl : k < xs.length := by rw [hown.1]; omega
        have hm : m ≤ 1048576 := by rw [← hT.1]; exact HL.out k hlt
        have HT : Hid (TagRow w1 ao m (X.getD k [])) := hT
        clear hc hT
        cases ao with
        | none =>
          have hnil : ∀ W, (binOp .eql 36 (.slice none m c') (.slice none 0 0)).run Try.prog W = .ok (.bool true) W := fun W => Lib.run_eql_slice_nil_nil W _ _ Try.underlying36
          go_wp2
          go_roundw
          case rel =>
            refine ⟨k + 1, xs, by omega, by go_num, hown, hmade.out.skip hlt ?_, hbel⟩
            rcases HT.out.2 with h | ⟨_, _, h, _⟩
            · exact List.eq_nil_of_length_eq_zero (HT.out.1.trans h)
            · cases h
          case measure => simp [intOf]; omega
        | some ad2 =>
          have hnil : ∀ W, (binOp .eql 36 (.slice (some ad2) m c') (.slice none 0 0)).run Try.prog W = .ok (.bool false) W := fun W => Lib.run_eql_slice_some_nil W _ _ _ Try.underlying36
          go_wp2_with (at_make; refine wpList_make_full _ rfl _ _ 34 rfl w1.heap.size 45 i' _ 2 Try.underlying34 hi' y0 y1 _ _ _ _ m rfl rfl (by omega) (by omega) (by rw [y2]; omega) (by unfold maxLen; omega) (Nat.le_refl _) ?_)
          intro w3 hk3 hg3
          have hb3 : Below w1.heap.size w1 w3 := (Below.refl _ _).grown hg3 (Nat.le_refl _) (by rintro k ⟨⟩)
          have HC1 : Hid (w1.cell? ⟨b, off + k, none⟩ = some (.slice (some ad2) m c')) := c1
          clear hg3 hnil c1
          go_wp2
          go_loopw [6] (fun i wr => ∃ (p : Nat) (ys : List Value), p ≤ m ∧ i = .int .i64 p ∧ wr.ownsRow w1.heap.size 45 2 (.slice (some ⟨w1.heap.size, 0, none⟩) m m) m ys ∧ Hid (TagsTo p (X.getD k []) ys) ∧ Below w1.heap.size w1 wr) (fun i _ => m - (intOf i).toNat)
          case atStart => exact ⟨0, _, Nat.zero_le _, rfl, hk3, fun j hj => by omega, hb3⟩
          case round =>
            obtain ⟨p, ys, hpm, rfl, hown3, htags, hbel3⟩ := hrel
            clear hk3 hb3
            have c1 := (hbel3.cell (p := ⟨b, off + k, none⟩) (World.block_lt_of_cell? w1 _ HC1.out)).trans HC1.out
            by_cases hltp : p < m
            · obtain ⟨_, h | ⟨b2, off2, had2, hc2⟩⟩ := HT.out.later hbel3
              · omega
              injection had2 with had2
              subst had2
              obtain ⟨d1, d2⟩ := hc2 p hltp
              have HTG : Hid (TagsTo (p + 1) (X.getD k []) ((ys.set (p * 2) (.int .u64 ((X.getD k []).getD p (0, 0)).1)).set (p * 2 + 1) (.int .u64 ((X.getD k []).getD p (0, 0)).2))) := htags.out.next (by rw [hown3.1]; omega)
              generalize ((X.getD k []).getD p (0, 0)).1 = u1 at d1 HTG
              generalize ((X.getD k []).getD p (0, 0)).2 = u2 at d2 HTG
              clear hc2
              have HO : Hid (wr.ownsRow w1.heap.size 45 2 (.slice (some ⟨w1.heap.size, 0, none⟩) m m) m ys) := hown3
              have HB : Hid (Below w1.heap.size w1 wr) := hbel3
              clear hown3 hbel3
              go_wp2_with (
                (go_at_call 17; refine (tag_any _ _ _).mono ?_; rintro e w4 ⟨rfl, hb4⟩
                 have hown4 := own_below HO.out hb4
                 have hb14 : Below w1.heap.size w1 w4 := HB.out.trans (hb4.mono HB.out.size)
                 have hlen : p * 2 + 1 < ys.length := by rw [hown4.1]; omega
                 obtain ⟨y1, q1⟩ : ∃ u, w4.cell? ⟨w1.heap.size, p * 2, none⟩ = some u := ⟨_, (hown4.cellAt (p * 2) (by omega)).trans (List.getElem?_eq_getElem (by omega))⟩
                 obtain ⟨y2, q2⟩ : ∃ u, w4.cell? ⟨w1.heap.size, p * 2 + 1, none⟩ = some u := ⟨_, (hown4.cellAt (p * 2 + 1) (by omega)).trans (List.getElem?_eq_getElem hlen)⟩
                 have f1 := hown4.frozenAt (p * 2)
                 have f2 := hown4.frozenAt (p * 2 + 1)
                 obtain ⟨o1, g1⟩ := hown4.stored (p * 2) (.int .u64 u1)
                 obtain ⟨o2, g2⟩ := o1.stored (p * 2 + 1) (.int .u64 u2)
                 have hb5 := hb14.grown (grown_trans g1 g2) hb14.size (by rintro k ⟨⟩; exact Nat.le_refl _)
                 clear hown4 o1 g1 g2 hb14))
              go_roundw
              case rel => exact ⟨p + 1, _, by omega, by go_num, o2, HTG, hb5⟩
              case measure => simp [intOf]; omega
            · have hpm' : p = m := by omega
              have HR : Hid (TagRow wr (some ⟨w1.heap.size, 0, none⟩) m (X.getD k [])) := by
                have h := htags.out
                rw [hpm'] at h
                exact h.row HT.out.1 hown3
              have hown5 := own_below hown hbel3
              obtain ⟨y1, q1⟩ : ∃ u, wr.cell? ⟨w.heap.size, k, none⟩ = some u := ⟨_, (hown5.cellAt k (by omega)).trans (List.getElem?_eq_getElem hl)⟩
              have f1 := hown5.frozenAt k
              obtain ⟨o1, g1⟩ := hown5.stored k (.slice (some ⟨w1.heap.size, 0, none⟩) m m)
              have hbw : Below w.heap.size w wr := hbel.trans (hbel3.mono hbel.size)
              have hb1 := hbw.grown g1 hbw.size (by rintro k ⟨⟩; exact Nat.le_refl _)
              have hlt1 : w.heap.size < w1.heap.size := (hown.lt w.heap.size rfl).2
              have HM : Hid (MadeTo (wr.setCell ⟨w.heap.size, k, none⟩ (.slice (some ⟨w1.heap.size, 0, none⟩) m m)) w.heap.size n (k + 1) X (xs.set k (.slice (some ⟨w1.heap.size, 0, none⟩) m m))) :=
                (hmade.out.later hbel3).next hl _ _ _ HR.out (by rintro ad ⟨⟩; simp only; omega) g1
              clear hown5 g1 hbw
              go_wp2
              go_roundw
              case rel => exact ⟨k + 1, _, by omega, by go_num, o1, HM, hb1⟩
              case measure => simp [intOf]; omega
      · have hkp : k = n := by omega
        go_wp2
        go_ret
        refine ⟨_, _, rfl, ?_, hbel⟩
        have h := hmade.out
        rw [hkp] at h
        exact h.rows HX.out.1 hown
end Go.Proofs.Qxb6618378a
