/-
  The walk of zzLCS (8).
-/
import Derived.Test.Qxb6618347aLawBase
import Derived.Test.Qxb6618347aMath2
namespace Go.Proofs.Qxb6618347a
open Go.RowKit

/-- A made row of numbers. -/
def IRow (w : World) (base g n : Nat) (l : List Int) : Prop := w.ownsRow base 3 1 (.slice (some ⟨g, 0, none⟩) n n) n (l.map (Value.int .i64))
theorem IRow.len {w : World} {base g n : Nat} {l : List Int} (h : IRow w base g n l) : l.length = n := by
  have := h.1
  simpa using this
theorem IRow.cell {w : World} {base g n : Nat} {l : List Int} (h : IRow w base g n l) (j : Nat) (hj : j < n) : w.cell? ⟨g, j, none⟩ = some (.int .i64 (l.getD j 0)) := by
  have hl := h.len
  rw [World.ownsRow.cellAt h j (by omega)]
  simp [List.getD, hl, hj]
theorem IRow.free {w : World} {base g n : Nat} {l : List Int} (h : IRow w base g n l) (j : Nat) : w.frozen? ⟨g, j, none⟩ = false := World.ownsRow.frozenAt h j
theorem IRow.set {w : World} {base g n : Nat} {l : List Int} (h : IRow w base g n l) (j : Nat) (x : Int) : IRow (w.setCell ⟨g, j, none⟩ (.int .i64 x)) base g n (l.set j x) := by
  have := (World.ownsRow.stored h j (.int .i64 x)).1
  unfold IRow
  rw [List.map_set]; exact this
theorem IRow.other {w : World} {base g g' n : Nat} {l : List Int} (h : IRow w base g n l) (hg : g ≠ g') (j : Nat) (u : Value) : IRow (w.setCell ⟨g', j, none⟩ u) base g n l :=
  ownsRow_setCell_other h (by simpa [Value.ownBlock] using hg) u
theorem IRow.drewN {w : World} {base g n : Nat} {l : List Int} (h : IRow w base g n l) (q : Nat) : IRow (w.drewN q) base g n l :=
  World.ownsRow.kept h (w' := w.drewN q) (row := none) ⟨rfl, rfl, rfl, Nat.le_refl _, fun _ _ _ => rfl⟩ (.inr (by simp [Value.ownBlock]))
theorem IRow.ge {w : World} {base g n : Nat} {l : List Int} (h : IRow w base g n l) : base ≤ g := (World.ownsRow.lt h g rfl).1
theorem below_drewN' {B : Nat} {a w : World} (h : Below B a w) (q : Nat) : Below B a (w.drewN q) := ⟨h.os, h.tape, h.output, h.size, h.block⟩

/-- Row i of the dynamic programme up to place j. -/
def RowTo (A B : List ByteArray) (i j : Nat) (l : List Int) : Prop := ∀ t, t ≤ j → l.getD t 0 = (LL A B i t : Int)
theorem rowTo_zero (A B : List ByteArray) (i : Nat) (l : List Int) (h : 0 < l.length) : RowTo A B i 0 (l.set 0 0) := by
  intro t ht
  obtain rfl : t = 0 := by omega
  rw [LL_zero_right, getD_set_same _ _ _ h]; rfl
theorem rowTo_step {A B : List ByteArray} {i j : Nat} {l : List Int} {x : Int} (h : RowTo A B i j l) (hl : j + 1 < l.length) (hx : x = (LL A B i (j + 1) : Int)) : RowTo A B i (j + 1) (l.set (j + 1) x) := by
  intro t ht
  by_cases e : t = j + 1
  · subst e; rw [getD_set_same _ _ _ hl, hx]
  · rw [getD_set_other _ _ _ _ (by omega)]; exact h t (by omega)

theorem getD_eq_iff (A B : List ByteArray) (i j : Nat) (hi : i < A.length) (hj : j < B.length) : (A.getD i ByteArray.empty = B.getD j ByteArray.empty) ↔ A[i]? = B[j]? := by
  simp [List.getD_eq_getElem?_getD, List.getElem?_eq_getElem hi, List.getElem?_eq_getElem hj]

set_option maxHeartbeats 4000000 in
set_option maxRecDepth 100000 in
theorem lcs_any (A B : List ByteArray) (ao bo : Option Addr) (ca cb : Nat) (w : World) (hA : StrRow w ao A.length A) (hB : StrRow w bo B.length B) (hN : A.length ≤ 4096) (hM : B.length ≤ 4096) :
    Calls Try.prog 8 #[.slice ao A.length ca, .slice bo B.length cb] w fun e w' => e = .returned (.int .i64 (LL A B A.length B.length)) ∧ Below w.heap.size w w' := by
  obtain ⟨i3, hi3, hy0, hy1, hy2⟩ := info_parts Try.info3
  have HA : Hid (StrRow w ao A.length A) := hA
  have HB : Hid (StrRow w bo B.length B) := hB
  clear hA hB
  go_enter Try.func8, Try.ntmps8
  go_wp2_with (at_make; refine wpList_make_full _ rfl _ _ 34 rfl w.heap.size 3 i3 _ 1 Try.underlying34 hi3 hy0 hy1 _ _ _ _ (B.length + 1) rfl rfl (by omega) (by omega) (by rw [hy2]; omega) (by unfold maxLen; omega) (Nat.le_refl _) ?_)
  intro w1 hp hg1
  have hb1 : Below w.heap.size w w1 := (Below.refl _ _).grown hg1 (Nat.le_refl _) (by rintro k ⟨⟩)
  have hs1 := (hp.lt _ rfl).2
  clear hg1
  go_wp2_with (at_make; refine wpList_make_full _ rfl _ _ 34 rfl w.heap.size 3 i3 _ 1 Try.underlying34 hi3 hy0 hy1 _ _ _ _ (B.length + 1) rfl rfl (by omega) (by omega) (by rw [hy2]; omega) (by unfold maxLen; omega) hb1.size ?_)
  intro w2 hc hg2
  have hb2 := hb1.grown hg2 hb1.size (by rintro k ⟨⟩)
  have hp2 := hp.kept hg2 (.inr (by simp [Value.ownBlock]))
  have hrel0 : ∃ (gp gc : Nat) (pl cl : List Int), w.heap.size = gp ∧ w1.heap.size = gc ∧ gp ≠ gc ∧ IRow w2 w.heap.size gp (B.length + 1) pl ∧ IRow w2 w.heap.size gc (B.length + 1) cl ∧ RowTo A B 0 B.length pl := by
    refine ⟨w.heap.size, w1.heap.size, List.replicate (B.length + 1) 0, List.replicate (B.length + 1) 0, rfl, rfl, by omega, ?_, ?_, ?_⟩
    · unfold IRow; rw [List.map_replicate]; simpa [toList_madeCells_one] using hp2
    · unfold IRow; rw [List.map_replicate]; simpa [toList_madeCells_one] using hc
    · intro t ht
      rw [LL_zero_left]
      simp [List.getD_eq_getElem?_getD, List.getElem?_replicate]
      split <;> rfl
  obtain ⟨gp, gc, pl, cl, e1, e2, hne, hp3, hc3, hr3⟩ := hrel0
  have hb3 : Below w.heap.size w w2 := hb2
  have HB0 : Hid (w.heap.size = gp) := e1
  clear hb2 hp2 hg2 hc hp hb1 hs1
  rw [e1, e2]
  clear e1 e2
  go_wp2
  go_loopw [5, 6, 7] (fun p c iv wr => ∃ (i gp gc : Nat) (pl cl : List Int), i ≤ A.length ∧ iv = .int .i64 ((i : Int) + 1) ∧ p = .slice (some ⟨gp, 0, none⟩) (B.length + 1) (B.length + 1) ∧ c = .slice (some ⟨gc, 0, none⟩) (B.length + 1) (B.length + 1) ∧ gp ≠ gc ∧
      IRow wr w.heap.size gp (B.length + 1) pl ∧ IRow wr w.heap.size gc (B.length + 1) cl ∧ RowTo A B i B.length pl ∧ Below w.heap.size w wr) (fun _ _ iv _ => A.length + 1 - (intOf iv).toNat)
  case atStart => exact ⟨0, gp, gc, pl, cl, Nat.zero_le _, rfl, rfl, rfl, hne, hp3, hc3, hr3, hb3⟩
  case round =>
    clear hp3 hc3 hr3 hb3 HB0 hne
    obtain ⟨i, gp, gc, pl, cl, hi, rfl, rfl, rfl, hne, hp, hc, hr, hb⟩ := hrel
    have hne' : ¬ gc = gp := fun h => hne h.symm
    by_cases hlt : i < A.length
    · have hdec : decide ((i : Int) + 1 ≤ (A.length : Int)) = true := decide_eq_true (by omega)
      have hc0 := hc.cell 0 (by omega)
      have hf0 := hc.free 0
      have hcs := hc.set 0 0
      have hps := hp.other hne 0 (.int .i64 0)
      have hbs := hb.setCell (p := ⟨gc, 0, none⟩) hc.ge (.int .i64 0)
      have hz := rowTo_zero A B (i + 1) cl (by rw [hc.len]; omega)
      generalize cl.set 0 0 = cl0 at hcs hz
      clear hc hp hb
      go_wp2
      obtain ⟨wo, rfl⟩ : ∃ wo : World, wo = wr := ⟨_, rfl⟩
      go_loopw [8] (fun jv wr => ∃ (j : Nat) (cl : List Int), j ≤ B.length ∧ jv = .int .i64 ((j : Int) + 1) ∧ IRow wr w.heap.size gp (B.length + 1) pl ∧ IRow wr w.heap.size gc (B.length + 1) cl ∧ RowTo A B (i + 1) j cl ∧ Below w.heap.size w wr) (fun jv _ => B.length + 1 - (intOf jv).toNat)
      case atStart => exact ⟨0, cl0, Nat.zero_le _, rfl, hps, hcs, hz, hbs⟩
      case round =>
        obtain ⟨j, cl, hj, rfl, hp, hc, hrc, hb⟩ := hrel
        clear hps hcs hz hbs hc0 hf0 cl0
        by_cases hlt2 : j < B.length
        · obtain ⟨_, h | ⟨ba, oa, rfl, hcA⟩⟩ := HA.out.later hb
          · omega
          obtain ⟨_, h | ⟨bb, ob, rfl, hcB⟩⟩ := HB.out.later hb
          · omega
          have zA := hcA i hlt
          have zB := hcB j hlt2
          have p0 := hp.cell j (by omega)
          have p1 := hp.cell (j + 1) (by omega)
          have c0 := hc.cell j (by omega)
          have c1 := hc.cell (j + 1) (by omega)
          have f1 := hc.free (j + 1)
          rw [hr j (by omega)] at p0
          rw [hr (j + 1) (by omega)] at p1
          rw [hrc j (Nat.le_refl _)] at c0
          have l0 := LL_le A B i j
          have l1 := LL_le A B i (j + 1)
          have l2 := LL_le A B (i + 1) j
          have hiff := getD_eq_iff A B i j hlt hlt2
          by_cases heq : A.getD i ByteArray.empty = B.getD j ByteArray.empty
          · have hL := LL_eq (hiff.1 heq)
            have HR := rowTo_step hrc (x := (LL A B i j : Int) + 1) (by rw [hc.len]; omega) (by omega)
            rw [← heq] at zB
            generalize A.getD i ByteArray.empty = s at zA zB
            have hb5 : (s.toList == s.toList) = true := by simp
            clear hcA hcB hiff heq hL
            generalize LL A B i j = x0 at p0 l0 HR
            generalize LL A B i (j + 1) = x1 at p1 l1
            generalize LL A B (i + 1) j = x2 at c0 l2
            go_wp2
            go_quiet (fail)
            go_wp2
            go_roundw
            case rel => exact ⟨j + 1, _, by omega, by go_num, (hp.drewN _).other hne (j + 1) _, (hc.drewN _).set (j + 1) _, HR, (below_drewN' hb _).setCell (p := ⟨gc, j + 1, none⟩) hc.ge _⟩
            case measure => simp [intOf]; omega
          · have hL := LL_ne (fun h => heq (hiff.2 h))
            by_cases hge : LL A B (i + 1) j ≤ LL A B i (j + 1)
            · have HR := rowTo_step hrc (x := (LL A B i (j + 1) : Int)) (by rw [hc.len]; omega) (by omega)
              generalize A.getD i ByteArray.empty = s at zA heq
              generalize B.getD j ByteArray.empty = t at zB heq
              have hb5 : (s.toList == t.toList) = false := by rw [toList_beq]; exact decide_eq_false heq
              clear hcA hcB hiff heq hL
              generalize LL A B i j = x0 at p0 l0
              generalize LL A B i (j + 1) = x1 at p1 l1 HR hge
              generalize LL A B (i + 1) j = x2 at c0 l2 hge
              have hb6 : decide ((x2 : Int) ≤ (x1 : Int)) = true := decide_eq_true (by omega)
              go_wp2
              go_quiet (fail)
              go_wp2
              go_quiet (fail)
              go_wp2
              go_roundw
              case rel => exact ⟨j + 1, _, by omega, by go_num, (hp.drewN _).other hne (j + 1) _, (hc.drewN _).set (j + 1) _, HR, (below_drewN' hb _).setCell (p := ⟨gc, j + 1, none⟩) hc.ge _⟩
              case measure => simp [intOf]; omega
            · have HR := rowTo_step hrc (x := (LL A B (i + 1) j : Int)) (by rw [hc.len]; omega) (by omega)
              generalize A.getD i ByteArray.empty = s at zA heq
              generalize B.getD j ByteArray.empty = t at zB heq
              have hb5 : (s.toList == t.toList) = false := by rw [toList_beq]; exact decide_eq_false heq
              clear hcA hcB hiff heq hL
              generalize LL A B i j = x0 at p0 l0
              generalize LL A B i (j + 1) = x1 at p1 l1 hge
              generalize LL A B (i + 1) j = x2 at c0 l2 HR hge
              have hb6 : decide ((x2 : Int) ≤ (x1 : Int)) = false := decide_eq_false (by omega)
              go_wp2
              go_quiet (fail)
              go_wp2
              go_quiet (fail)
              go_wp2
              go_roundw
              case rel => exact ⟨j + 1, _, by omega, by go_num, (hp.drewN _).other hne (j + 1) _, (hc.drewN _).set (j + 1) _, HR, (below_drewN' hb _).setCell (p := ⟨gc, j + 1, none⟩) hc.ge _⟩
              case measure => simp [intOf]; omega
        · have HR : RowTo A B (i + 1) B.length cl := by
            have : j = B.length := by omega
            rw [← this]; exact hrc
          clear hrc
          go_wp2
          go_roundw
          case rel => exact ⟨i + 1, gc, gp, cl, pl, by omega, by go_num, rfl, rfl, hne', hc, hp, HR, hb⟩
          case measure => simp [intOf]; omega
    · have hcl := hp.cell B.length (by omega)
      have hLv := hr B.length (Nat.le_refl _)
      have hiN : i = A.length := by omega
      rw [hLv, hiN] at hcl
      clear hLv hiN hr
      go_wp2
      go_ret
      exact ⟨rfl, hb⟩
end Go.Proofs.Qxb6618347a
