/-
  Walk of 'without' (11).
-/
import Derived.Test.Qxb6618350aDel
namespace Go.Proofs.Qxb6618350a
open Go.RowKit

theorem own_shape {w : World} {b : Nat} {e : TypeId} {size : Nat} {v : Value} {n : Nat} {xs : List Value} (h : w.ownsRow b e size v n xs) (hn : 0 < n) : ∃ g c, v = .slice (some ⟨g, 0, none⟩) n c ∧ b ≤ g := by
  rcases h.2 with ⟨_, h2⟩ | ⟨g, cap, cur, hv, hg, hh, r⟩
  · omega
  · exact ⟨g, cap, hv, hg⟩
theorem w64_wrap (x : Int) : wrap64 x = w64 x := by
  unfold w64
  simp only [wrap64]

theorem split_at (R : List (Int × Int)) (i : Nat) (h : i < R.length) : ∃ L1 L2, R = L1 ++ R.getD i (0, 0) :: L2 ∧ L1.length = i ∧ L1 ++ L2 = R.eraseIdx i := by
  refine ⟨R.take i, R.drop (i + 1), ?_, by simp; omega, ?_⟩
  · rw [List.getD_eq_getElem?_getD, List.getElem?_eq_getElem h]
    simp
  · rw [List.eraseIdx_eq_take_drop_succ]

theorem set_cells (R : List (Int × Int)) (i : Nat) (c y z : Int) (h : R[i]? = some (c, y)) : (bcells R).set (i * 2 + 1) (.int .i64 z) = bcells (R.set i (c, z)) := by
  obtain ⟨c1, _⟩ := bcells_at R i _ h
  rw [bcells_set]
  congr 1
  apply List.ext_getElem?
  intro j
  rw [List.getElem?_set]
  split
  · subst_vars
    have hl := (List.getElem?_eq_some_iff.1 c1).1
    rw [if_pos hl, c1]
  · rfl

set_option maxHeartbeats 1600000 in
set_option maxRecDepth 100000 in
theorem wo_any (R : List (Int × Int)) (base g n : Nat) (c : Int) (w : World) (h : w.ownsRow base 33 2 (.slice (some ⟨g, 0, none⟩) n n) n (bcells R)) (hR : R.length = n) (hn : n ≤ 1048576) :
    Calls Try.prog 11 #[.slice (some ⟨g, 0, none⟩) n n, .int .i64 c] w fun e w' => ∃ v, e = .returned v ∧ w'.ownsRow 0 33 2 v (wo c R).length (bcells (wo c R)) ∧ Below w.heap.size w w' := by
  have HO : Hid (w.ownsRow base 33 2 (.slice (some ⟨g, 0, none⟩) n n) n (bcells R)) := h
  have HR : Hid (R.length = n) := hR
  have HO1 : Hid ((w.alloc (.cells #[.int .i64 c] 3)).ownsRow base 33 2 (.slice (some ⟨g, 0, none⟩) n n) n (bcells R)) := h.alloc _
  clear h hR
  go_enter Try.func11, Try.ntmps11
  go_wp2_with (go_at_call 13; refine (index_any R base g n n c w.heap.size _ HO1.out HR.out hn (by simp)).mono ?_)
  rintro e w1 ⟨r, rfl, hb1, hcase⟩
  have hb0 : Below w.heap.size w w1 := ((Below.refl _ w).alloc (Nat.le_refl _) _).trans (hb1.mono (by simp))
  have hown1 := own_below HO1.out hb1
  have HCASE : Hid ((r = -1 ∧ ∀ j, j < n → (R.getD j (0, 0)).1 ≠ c) ∨ ∃ i : Nat, r = (i : Int) ∧ i < n ∧ (R.getD i (0, 0)).1 = c ∧ ∀ j, j < i → (R.getD j (0, 0)).1 ≠ c) := hcase
  clear hcase hb1
  rcases HCASE.out with ⟨rfl, hno⟩ | ⟨i, rfl, hin, hic, hno⟩
  · have HW : Hid (wo c R = R) := wo_none c R (hasB_false.2 (fun j hj => by
      have hl := HR.out
      simp only [List.length_map] at hj
      have := hno j (by omega)
      rw [List.getD_eq_getElem?_getD, List.getElem?_eq_getElem hj] at this
      rw [List.getD_eq_getElem?_getD, List.getElem?_map, List.getElem?_eq_getElem hj]
      simpa using this))
    have HW2 : Hid (w1.ownsRow 0 33 2 (.slice (some ⟨g, 0, none⟩) n n) (wo c R).length (bcells (wo c R))) := by
      rw [HW.out, HR.out]; exact own_base hown1 (Nat.zero_le _)
    clear hno HCASE hown1
    go_wp2
    go_ret
    exact ⟨_, rfl, HW2.out, hb0⟩
  · go_wp2_with (go_at_call 15; refine (clone_any R base g n n _ hown1 hn).mono ?_)
    rintro e w2 ⟨v2, rfl, hown2, hb2⟩
    obtain ⟨g2, c2, rfl, hg2⟩ := own_shape hown2 (by omega)
    have hb02 : Below w.heap.size w w2 := hb0.trans (hb2.mono hb0.size)
    have hg2' : w.heap.size ≤ g2 := Nat.le_trans hb0.size hg2
    obtain ⟨L1, L2, hsp, hL1, hera⟩ := split_at R i (by rw [HR.out]; exact hin)
    have hRi : R[i]? = some (c, (R.getD i (0, 0)).2) := by
      rw [← hic, List.getD_eq_getElem?_getD, List.getElem?_eq_getElem (by rw [HR.out]; exact hin)]
      rfl
    have hwo := wo_at c R i (R.getD i (0, 0)).2 hno hRi
    obtain ⟨c1, c3⟩ := bcells_at R i _ hRi
    have z2 := (hown2.cellAt (i * 2 + 1) (by omega)).trans c3
    have f2 := hown2.frozenAt (i * 2 + 1)
    simp only at z2
    obtain ⟨hs3, hgs3⟩ := hown2.stored (i * 2 + 1) (.int .i64 (wrap64 ((R.getD i (0, 0)).2 - 1)))
    rw [set_cells R i c _ _ hRi] at hs3
    have hb3 := hb02.grown hgs3 hb02.size (by rintro k ⟨⟩; exact hg2')
    rw [← w64_wrap] at hwo
    have hnl : n = L1.length + 1 + L2.length := by
      have := congrArg List.length hsp
      rw [HR.out] at this
      simp at this; omega
    have hset : R.set i (c, wrap64 ((R.getD i (0, 0)).2 - 1)) = L1 ++ (c, wrap64 ((R.getD i (0, 0)).2 - 1)) :: L2 := by
      generalize wrap64 ((R.getD i (0, 0)).2 - 1) = N
      generalize R.getD i (0, 0) = q at hsp
      rw [hsp, ← hL1]
      simp
    generalize (R.getD i (0, 0)).2 = y at z2 hs3 hb3 hwo hset
    generalize hN : wrap64 (y - 1) = N at hs3 hb3 hwo hset
    have HN : Hid (wrap64 (y - 1) = N) := hN
    have HSET : Hid (R.set i (c, N) = L1 ++ (c, N) :: L2) := hset
    have HLEN : Hid ((R.set i (c, N)).length = n) := by show _ = _; rw [List.length_set]; exact HR.out
    have z3 : (w2.setCell ⟨g2, i * 2 + 1, none⟩ (.int .i64 N)).cell? ⟨g2, i * 2 + 1, none⟩ = some (.int .i64 N) := World.cell?_setCell_same _ _ _ z2
    by_cases hN0 : N = 0
    · rw [if_pos hN0] at hwo
      have HW : Hid (wo c R = L1 ++ L2) := hwo.trans hera.symm
      rw [hset] at hs3
      subst hL1
      subst hnl
      have hs4 : Hid ((w2.setCell ⟨g2, L1.length * 2 + 1, none⟩ (.int .i64 N)).ownsRow w1.heap.size 33 2 (.slice (some ⟨g2, 0, none⟩) (L1.length + 1 + L2.length) c2) (L1.length + 1 + L2.length) (bcells (L1 ++ (c, N) :: L2))) := hs3
      have hbn : (N == 0) = true := by simpa using hN0
      have hgz : g2 < w2.heap.size := (hown2.lt g2 rfl).2
      clear hno HCASE hown1 hsp hera hRi hwo c1 c3 hs3 hset hic hN0 hown2
      go_wp2_with (go_at_call 16; refine (del_any L1 L2 (c, N) w1.heap.size g2 c2 _ hs4.out hn).mono ?_)
      rintro e w4 ⟨rfl, ho4, hg4⟩
      go_wp2
      go_ret
      refine ⟨_, rfl, ?_, hb3.grown hg4 hb3.size (by rintro k ⟨⟩; exact hg2')⟩
      rw [HW.out, List.length_append]
      exact own_base ho4 (Nat.zero_le _)
    · rw [if_neg hN0] at hwo
      have HW2 : Hid ((w2.setCell ⟨g2, i * 2 + 1, none⟩ (.int .i64 N)).ownsRow 0 33 2 (.slice (some ⟨g2, 0, none⟩) n c2) (wo c R).length (bcells (wo c R))) := by
        rw [hwo, HLEN.out]; exact own_base hs3 (Nat.zero_le _)
      have hbn : (N == 0) = false := by simpa using hN0
      clear hnl hL1 hno HCASE hown1 hsp hera hRi hwo c1 c3 hs3 hset hic hN0 hown2
      go_wp2
      go_ret
      exact ⟨_, rfl, HW2.out, hb3⟩
end Go.Proofs.Qxb6618350a
