/-
  Walk of ZZWithout (6).
-/
import Derived.Test.Qxb6618350aWo
namespace Go.Proofs.Qxb6618350a
open Go.RowKit

theorem made_two (m : Nat) : (madeCells #[Value.int .i64 0, .int .i64 0] m).toList = List.replicate m (.int .i64 0) := by
  apply List.ext_getElem?
  intro j
  by_cases hj : j < m
  · have h2 : j % 2 = 0 ∨ j % 2 = 1 := by omega
    rcases h2 with h2 | h2 <;> simp [madeCells, hj, h2]
  · simp [madeCells, hj]
theorem bcells_zero (n : Nat) : bcells (List.replicate n (0, 0)) = List.replicate (n * 2) (.int .i64 0) := by
  induction n with
  | zero => rfl
  | succ n ih =>
    rw [List.replicate_succ, show (n + 1) * 2 = n * 2 + 1 + 1 by omega, List.replicate_succ, List.replicate_succ, ← ih]
    rfl
/-- The first k batches laid, the rest zero. -/
def bp (R : List (Int × Int)) (n k : Nat) : List (Int × Int) := R.take k ++ List.replicate (n - k) (0, 0)
theorem bp_zero (R : List (Int × Int)) (n : Nat) : bp R n 0 = List.replicate n (0, 0) := by simp [bp]
theorem bp_full (R : List (Int × Int)) (n : Nat) (h : R.length = n) : bp R n n = R := by simp [bp, ← h]
theorem bp_set (R : List (Int × Int)) (n k : Nat) (h : R.length = n) (hk : k < n) : (bp R n k).set k (R.getD k (0, 0)) = bp R n (k + 1) := by
  unfold bp
  have hl : (R.take k).length = k := by simp; omega
  rw [List.set_append_right _ _ (by omega), hl, Nat.sub_self, show n - k = n - (k + 1) + 1 by omega, List.replicate_succ, List.set_cons_zero, List.take_succ_eq_append_getElem (by omega), List.append_assoc]
  simp [List.getD_eq_getElem?_getD, show k < R.length by omega]

theorem own_form {w : World} {b : Nat} {e : TypeId} {size : Nat} {v : Value} {n : Nat} {xs : List Value} (h : w.ownsRow b e size v n xs) : ∃ ao c, v = .slice ao n c ∧ (0 < n → ∃ g, ao = some ⟨g, 0, none⟩) := by
  rcases h.2 with ⟨rfl, rfl⟩ | ⟨g, cap, cur, rfl, _⟩
  · exact ⟨none, 0, rfl, by omega⟩
  · exact ⟨_, cap, rfl, fun _ => ⟨g, rfl⟩⟩

theorem zip_getD' (C N : List Int) (n j : Nat) (hC : C.length = n) (hN : N.length = n) (hj : j < n) : (C.zip N).getD j (0, 0) = (C.getD j 0, N.getD j 0) := by
  simp [List.getD_eq_getElem?_getD, List.getElem?_eq_getElem (show j < C.length by omega), List.getElem?_eq_getElem (show j < N.length by omega), List.getElem?_eq_getElem (show j < (C.zip N).length by simp; omega)]

theorem fst_getD (R : List (Int × Int)) (j : Nat) : (R.map (·.1)).getD j 0 = (R.getD j (0, 0)).1 := by
  simp only [List.getD_eq_getElem?_getD, List.getElem?_map]
  cases R[j]? <;> rfl
theorem snd_getD (R : List (Int × Int)) (j : Nat) : (R.map (·.2)).getD j 0 = (R.getD j (0, 0)).2 := by
  simp only [List.getD_eq_getElem?_getD, List.getElem?_map]
  cases R[j]? <;> rfl

theorem two_set {w : World} {base g n : Nat} {cur : List (Int × Int)} (h : w.ownsRow base 33 2 (.slice (some ⟨g, 0, none⟩) n n) n (bcells cur)) (a : Nat) (e : Int × Int) :
    ((w.setCell ⟨g, a * 2, none⟩ (.int .i64 e.1)).setCell ⟨g, a * 2 + 1, none⟩ (.int .i64 e.2)).ownsRow base 33 2 (.slice (some ⟨g, 0, none⟩) n n) n (bcells (cur.set a e)) ∧
    w.grownBy ((w.setCell ⟨g, a * 2, none⟩ (.int .i64 e.1)).setCell ⟨g, a * 2 + 1, none⟩ (.int .i64 e.2)) (some g) := by
  obtain ⟨h1, g1⟩ := h.stored (a * 2) (.int .i64 e.1)
  obtain ⟨h2, g2⟩ := h1.stored (a * 2 + 1) (.int .i64 e.2)
  rw [← bcells_set] at h2
  exact ⟨h2, grown_trans g1 g2⟩

set_option maxHeartbeats 2000000 in
set_option maxRecDepth 100000 in
theorem zz_any (C N : List Int) (n : Nat) (co no : Option Addr) (cc cn : Nat) (c : Int) (w : World) (hC : IntRow w co n C) (hN : IntRow w no n N) (hn : n ≤ 1048576) :
    Calls Try.prog 6 #[.slice co n cc, .slice no n cn, .int .i64 c] w fun e w' =>
      ∃ gk gl : Nat, e = .returned (.tuple #[.slice (some ⟨gk, 0, none⟩) (wo c (C.zip N)).length (wo c (C.zip N)).length, .slice (some ⟨gl, 0, none⟩) (wo c (C.zip N)).length (wo c (C.zip N)).length]) ∧
        IntRow w' (some ⟨gk, 0, none⟩) (wo c (C.zip N)).length ((wo c (C.zip N)).map (·.1)) ∧ IntRow w' (some ⟨gl, 0, none⟩) (wo c (C.zip N)).length ((wo c (C.zip N)).map (·.2)) ∧ Below w.heap.size w w' := by
  obtain ⟨i33, hi, hz0, hz1, hz2⟩ := info_parts Try.info33
  obtain ⟨i3, hi3, hy0, hy1, hy2⟩ := info_parts Try.info3
  have HLC : Hid (C.length = n) := hC.1
  have HLN : Hid (N.length = n) := hN.1
  have HC : Hid (IntRow w co n C) := hC
  have HN : Hid (IntRow w no n N) := hN
  clear hC hN
  have HZ : Hid ((C.zip N).length = n) := by show _ = _; rw [List.length_zip, HLC.out, HLN.out, Nat.min_self]
  go_enter Try.func6, Try.ntmps6
  go_wp2_with (at_make; refine wpList_make_full _ rfl _ _ 31 rfl w.heap.size 33 i33 _ 2 Try.underlying31 hi hz0 hz1 _ _ _ _ n rfl rfl (by omega) (by omega) (by rw [hz2]; omega) (by unfold maxLen; omega) (Nat.le_refl _) ?_)
  intro w1 hk1 hg1
  have hb1 : Below w.heap.size w w1 := (Below.refl _ _).grown hg1 (Nat.le_refl _) (by rintro k ⟨⟩)
  have HK1 : Hid (w1.ownsRow w.heap.size 33 2 (.slice (some ⟨w.heap.size, 0, none⟩) n n) n (bcells (bp (C.zip N) n 0))) := by
    rw [bp_zero, bcells_zero, ← made_two]; exact hk1
  clear hg1 hk1
  go_wp2
  go_loopw [9] (fun i wr => ∃ (k : Nat), k ≤ n ∧ i = .int .i64 k ∧ Hid (wr.ownsRow w.heap.size 33 2 (.slice (some ⟨w.heap.size, 0, none⟩) n n) n (bcells (bp (C.zip N) n k))) ∧ Below w.heap.size w wr) (fun i _ => n - (intOf i).toNat)
  case atStart => exact ⟨0, Nat.zero_le _, rfl, HK1, hb1⟩
  case round =>
    obtain ⟨k, hk, rfl, hown, hbel⟩ := hrel
    clear HK1 hb1
    by_cases hlt : k < n
    · obtain ⟨_, h | ⟨pb, pf, rfl, hc⟩⟩ := IntRow.later' w HC.out hbel
      · omega
      obtain ⟨_, h | ⟨qb, qf, rfl, hd⟩⟩ := IntRow.later' w HN.out hbel
      · omega
      have z1 := hc k hlt
      have z2 := hd k hlt
      have hl := hown.out.1
      obtain ⟨y1, q1⟩ : ∃ u, wr.cell? ⟨w.heap.size, k * 2, none⟩ = some u := ⟨_, (hown.out.cellAt (k * 2) (by omega)).trans (List.getElem?_eq_getElem (by omega))⟩
      obtain ⟨y2, q2⟩ : ∃ u, wr.cell? ⟨w.heap.size, k * 2 + 1, none⟩ = some u := ⟨_, (hown.out.cellAt (k * 2 + 1) (by omega)).trans (List.getElem?_eq_getElem (by omega))⟩
      have f1 := hown.out.frozenAt (k * 2)
      have f2 := hown.out.frozenAt (k * 2 + 1)
      obtain ⟨o1, g1⟩ := two_set hown.out k ((C.zip N).getD k (0, 0))
      rw [bp_set _ _ _ HZ.out hlt] at o1
      rw [zip_getD' C N n k HLC.out HLN.out hlt] at o1 g1
      have hb1 := hbel.grown g1 hbel.size (by rintro k ⟨⟩; exact Nat.le_refl _)
      simp only at o1 hb1
      generalize C.getD k 0 = a1 at z1 o1 hb1
      generalize N.getD k 0 = a2 at z2 o1 hb1
      clear hc hd hl g1 hown hbel
      go_wp2
      go_region
      go_wp2
      go_roundw
      case rel => exact ⟨k + 1, by omega, by go_num, World.ownsRow.drew o1, hb1.drew⟩
      case measure => simp [intOf]; omega
    · have HO2 : Hid (wr.ownsRow w.heap.size 33 2 (.slice (some ⟨w.heap.size, 0, none⟩) n n) n (bcells (C.zip N))) := by
        have hkn : k = n := by omega
        have := hown.out
        rw [hkn, bp_full _ _ HZ.out] at this
        exact this
      clear hown
      go_wp2_with (go_at_call 11; refine (wo_any (C.zip N) w.heap.size w.heap.size n c _ HO2.out HZ.out hn).mono ?_)
      rintro e w3 ⟨v, rfl, ho, hb3'⟩
      have hb3 : Below w.heap.size w w3 := hbel.trans (hb3'.mono hbel.size)
      have hlen : (wo c (C.zip N)).length ≤ n := by
        have := wo_length c (C.zip N)
        have := HZ.out
        omega
      clear HO2 hb3' hbel HC HN HLC HLN HZ
      generalize hE : wo c (C.zip N) = E at ho hlen ⊢
      have HE : Hid (wo c (C.zip N) = E) := hE
      clear hE
      obtain ⟨eo, ce, rfl, hg⟩ := own_form ho
      have HG : Hid (0 < E.length → ∃ g, eo = some ⟨g, 0, none⟩) := hg
      clear hg
      go_wp2_with (at_make; refine wpList_make_full _ rfl _ _ 22 rfl w3.heap.size 3 i3 _ 1 Try.underlying22 hi3 hy0 hy1 _ _ _ _ E.length rfl rfl (by omega) (by omega) (by rw [hy2]; omega) (by unfold maxLen; omega) (Nat.le_refl _) ?_)
      intro w4 hk4 hg4
      have ho4 := ho.kept hg4 (by cases h : (Value.slice eo E.length ce).ownBlock with | none => exact .inl rfl | some k => exact .inr (by simp))
      have hb4 := hb3.grown hg4 hb3.size (by rintro k ⟨⟩)
      have hk1 : w3.heap.size < w4.heap.size := (hk4.lt _ rfl).2
      have hw3 := hb3.size
      clear ho hg4
      go_wp2_with (at_make; refine wpList_make_full _ rfl _ _ 22 rfl w3.heap.size 3 i3 _ 1 Try.underlying22 hi3 hy0 hy1 _ _ _ _ E.length rfl rfl (by omega) (by omega) (by rw [hy2]; omega) (by unfold maxLen; omega) (by omega) ?_)
      intro w5 hl5 hg5
      have ho5 := ho4.kept hg5 (by cases h : (Value.slice eo E.length ce).ownBlock with | none => exact .inl rfl | some k => exact .inr (by simp))
      have hk5 := hk4.kept hg5 (.inr (by simp [Value.ownBlock]))
      have hb5 := hb4.grown hg5 hb4.size (by rintro k ⟨⟩)
      simp only [toList_madeCells_one, ← part_zero (icell (E.map (·.1)))] at hk5
      simp only [toList_madeCells_one, ← part_zero (icell (E.map (·.2)))] at hl5
      generalize w3.heap.size = gk at hk5 hl5 hk1 hw3 ⊢
      generalize w4.heap.size = gl at hl5 hk1 ⊢
      clear ho4 hk4 hg5 hb4 hb3
      obtain ⟨wo1, rfl⟩ : ∃ wo1 : World, wo1 = wr := ⟨_, rfl⟩
      go_wp2
      go_loopw [13] (fun i wr => ∃ (k : Nat), k ≤ E.length ∧ i = .int .i64 k ∧ wr.ownsRow 0 33 2 (.slice eo E.length ce) E.length (bcells E) ∧
          wr.ownsRow gk 3 1 (.slice (some ⟨gk, 0, none⟩) E.length E.length) E.length (part (icell (E.map (·.1))) (.int .i64 0) E.length k) ∧
          wr.ownsRow gk 3 1 (.slice (some ⟨gl, 0, none⟩) E.length E.length) E.length (part (icell (E.map (·.2))) (.int .i64 0) E.length k) ∧ Below w.heap.size w wr) (fun i _ => E.length - (intOf i).toNat)
      case atStart => exact ⟨0, Nat.zero_le _, rfl, ho5, hk5, hl5, hb5⟩
      case round =>
        obtain ⟨j, hj, rfl, he, hkk, hll, hbb⟩ := hrel
        clear ho5 hk5 hl5 hb5
        by_cases hlt2 : j < E.length
        · obtain ⟨g, rfl⟩ := HG.out (by omega)
          obtain ⟨c1, c2⟩ := bcells_at E j (E.getD j (0, 0)) (by simp [List.getD_eq_getElem?_getD, hlt2])
          have r1 := (he.cellAt (j * 2) (by omega)).trans c1
          have r2 := (he.cellAt (j * 2 + 1) (by omega)).trans c2
          obtain ⟨y1, q1⟩ : ∃ u, wr.cell? ⟨gk, j, none⟩ = some u := ⟨_, (hkk.cellAt j (by omega)).trans (List.getElem?_eq_getElem (by rw [part_length]; exact hlt2))⟩
          obtain ⟨y2, q2⟩ : ∃ u, wr.cell? ⟨gl, j, none⟩ = some u := ⟨_, (hll.cellAt j (by omega)).trans (List.getElem?_eq_getElem (by rw [part_length]; exact hlt2))⟩
          have f1 := hkk.frozenAt j
          have f2 := hll.frozenAt j
          have n1 : ¬ g = gk := by
            rcases own_apart he hkk (by decide) with h | h
            · simp [Value.ownBlock] at h
            · simpa [Value.ownBlock] using h
          have n2 : ¬ g = gl := by
            rcases own_apart he hll (by decide) with h | h
            · simp [Value.ownBlock] at h
            · simpa [Value.ownBlock] using h
          have n3 : ¬ gk = gl := by omega
          have n3' : ¬ gl = gk := by omega
          obtain ⟨o1, g1⟩ := hkk.stored j (icell (E.map (·.1)) j)
          rw [part_set] at o1
          have hll1 := hll.kept g1 (.inr (by simpa [Value.ownBlock] using n3'))
          obtain ⟨o2, g2⟩ := hll1.stored j (icell (E.map (·.2)) j)
          rw [part_set] at o2
          have he2 := (he.kept g1 (.inr (by simpa [Value.ownBlock] using n1))).kept g2 (.inr (by simpa [Value.ownBlock] using n2))
          have hk2 := o1.kept g2 (.inr (by simpa [Value.ownBlock] using n3))
          have hb2 := (hbb.grown g1 hbb.size (by rintro k ⟨⟩; exact hw3)).grown g2 (Nat.le_trans hbb.size g1.size) (by rintro k ⟨⟩; omega)
          clear o1 g1 g2 hll1 he hkk hll hbb c1 c2
          unfold icell at o2 he2 hk2 hb2
          rw [fst_getD E j] at o2 he2 hk2 hb2
          rw [snd_getD E j] at o2 he2 hk2 hb2
          generalize (E.getD j (0, 0)).1 = a1 at r1 o2 he2 hk2 hb2
          generalize (E.getD j (0, 0)).2 = a2 at r2 o2 he2 hk2 hb2
          go_wp2
          go_roundw
          case rel => exact ⟨j + 1, by omega, by go_num, he2, hk2, o2, hb2⟩
          case measure => simp [intOf]; omega
        · rw [part_full _ _ _ _ (by omega)] at hkk hll
          have H1 : Hid (IntRow wr (some ⟨gk, 0, none⟩) E.length (E.map (·.1))) := intRow_of hkk (by simp)
          have H2 : Hid (IntRow wr (some ⟨gl, 0, none⟩) E.length (E.map (·.2))) := intRow_of hll (by simp)
          clear hkk hll he
          go_wp2
          go_ret2
          have hE := HE.out
          subst hE
          exact ⟨gk, gl, rfl, H1.out, H2.out, hbb⟩
end Go.Proofs.Qxb6618350a
