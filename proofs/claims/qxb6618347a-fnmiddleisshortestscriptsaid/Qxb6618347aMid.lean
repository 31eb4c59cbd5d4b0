/-
  The walk of 'middle' (10).
-/
import Derived.Test.Qxb6618347aMidMem
import Derived.Deep.LoopGhost
import Derived.Deep.DeepCutAuto
namespace Go.Proofs.Qxb6618347a
open Go.RowKit

def VLd (A B : List ByteArray) (d off : Nat) (vl : List Int) : Prop := ∀ k, U d k → vl.getD (k + off).toNat 0 = G A B d k

theorem made_zero (n : Nat) : (madeCells #[Value.int .i64 0] (n * 1)).toList = (List.replicate n (0 : Int)).map (Value.int .i64) := by
  rw [toList_madeCells_one, Nat.mul_one, List.map_replicate]

/-- The part of v that round d reads. -/
theorem part_of {A B : List ByteArray} {d off n : Nat} {vl : List Int} (h : VLd A B d off vl) (hd : d + 1 ≤ off) (hn : n = 2 * off + 1) (hl : vl.length = n) :
    ∃ xs : List Int, xs.length = 2 * d + 3 ∧ (∀ j, j < 2 * d + 3 → xs[j]? = some (vl.getD (off - d - 1 + j) 0)) ∧ ∀ k, U d k → xs[(k + d + 1).toNat]? = some (G A B d k) := by
  have hj : ∀ j, j < 2 * d + 3 → ((vl.drop (off - d - 1)).take (2 * d + 3))[j]? = some (vl.getD (off - d - 1 + j) 0) := by
    intro j hj
    rw [List.getElem?_take, if_pos hj, List.getElem?_drop, List.getD_eq_getElem?_getD, List.getElem?_eq_getElem (by omega)]
    rfl
  refine ⟨(vl.drop (off - d - 1)).take (2 * d + 3), by simp; omega, hj, fun k hk => ?_⟩
  have hb : 0 ≤ k + d + 1 ∧ k + d + 1 < 2 * d + 3 := by
    rcases hk with ⟨h1, h2⟩ | ⟨e, rfl, h1, h2, _⟩ <;> omega
  rw [hj _ (by omega), ← h k hk]
  congr 2
  omega

/-- Round d has come to diagonal k. -/
def KS (A B : List ByteArray) (d off : Nat) (k : Int) (vl : List Int) : Prop :=
  VLd A B d off vl ∧ (∀ k', V d k' → k' < k → vl.getD (k' + off).toNat 0 = G A B (d + 1) k') ∧ ∀ k', V d k' → k' < k → ¬ Done A B d k'
theorem ks_start {A B : List ByteArray} {d off : Nat} {vl : List Int} (h : VLd A B d off vl) : KS A B d off (-(d : Int)) vl :=
  ⟨h, fun k' v hk => by obtain ⟨_, _, _⟩ := v; omega, fun k' v hk => by obtain ⟨_, _, _⟩ := v; omega⟩
theorem getD_set_same (vl : List Int) (j : Nat) (x : Int) (h : j < vl.length) : (vl.set j x).getD j 0 = x := by
  simp [List.getD_eq_getElem?_getD, h]
theorem getD_set_other (vl : List Int) (i j : Nat) (x : Int) (h : i ≠ j) : (vl.set i x).getD j 0 = vl.getD j 0 := by
  simp [List.getD_eq_getElem?_getD, h]
theorem ks_step {A B : List ByteArray} {d off : Nat} {k : Int} {vl : List Int} (h : KS A B d off k vl) (v : V d k) (hd : d + 1 ≤ off) (hl : vl.length = 2 * off + 1) (hn : ¬ Done A B d k) :
    KS A B d off (k + 2) (vl.set (k + off).toNat (G A B (d + 1) k)) := by
  obtain ⟨h1, h2, h3⟩ := h
  obtain ⟨v1, v2, v3⟩ := v
  refine ⟨fun k' hu => ?_, fun k' v' hk' => ?_, fun k' v' hk' => ?_⟩
  · rw [getD_set_other, h1 k' hu]
    rcases hu with ⟨rfl, rfl⟩ | ⟨e, rfl, u1, u2, u3⟩ <;> omega
  · by_cases e : k' = k
    · subst e
      exact getD_set_same _ _ _ (by omega)
    · obtain ⟨w1, w2, w3⟩ := v'
      rw [getD_set_other _ _ _ _ (by omega)]
      exact h2 k' ⟨w1, w2, w3⟩ (by omega)
  · by_cases e : k' = k
    · subst e; exact hn
    · obtain ⟨w1, w2, w3⟩ := v'
      exact h3 k' ⟨w1, w2, w3⟩ (by omega)
theorem ks_end {A B : List ByteArray} {d off : Nat} {k : Int} {vl : List Int} (h : KS A B d off k vl) (hk : (d : Int) < k) (hnb : NotBefore A B d) : VLd A B (d + 1) off vl ∧ NotBefore A B (d + 1) := by
  obtain ⟨h1, h2, h3⟩ := h
  constructor
  · rintro k' (⟨h, _⟩ | ⟨e, he, v⟩)
    · omega
    · obtain rfl : d = e := by omega
      have v2 := v.2.1
      exact h2 k' v (by omega)
  · intro d' hd k' v
    by_cases e : d' = d
    · subst e
      have v2 := v.2.1
      exact h3 k' v (by omega)
    · exact hnb d' (by omega) k' v
theorem Mem.trace' {A B : List ByteArray} {w0 w : World} {ge ce gv n d gt ct : Nat} {vl : List Int} (m : Mem A B w0 w ge ce gv n (d + 1) (.slice (some ⟨gt, 0, none⟩) (d + 1) ct) vl) : Trace A B d gt ge w := by
  obtain ⟨gt', ct', e, h⟩ := m.trace
  simp only [Value.slice.injEq, Option.some.injEq, Addr.mk.injEq, and_true, true_and] at e
  obtain ⟨rfl, rfl⟩ := e
  exact h
theorem back_below {w0 w w' : World} {ge : Nat} (h : Below ge w0 w) (hg : w.grownBy w' (some ge)) (hl : ge < w.heap.size) : Below ge w0 w' :=
  h.grown hg (by omega) (by rintro k ⟨⟩; exact Nat.le_refl _)

set_option maxHeartbeats 4000000 in
set_option maxRecDepth 100000 in
theorem mid_full (A B : List ByteArray) (ba oa ca bb ob cb : Nat) (w : World) (hN0 : 0 < A.length) (hM0 : 0 < B.length) (hN : A.length ≤ 4096) (hM : B.length ≤ 4096)
    (hA : ∀ j, j < A.length → w.cell? ⟨ba, oa + j, none⟩ = some (.string (A.getD j ByteArray.empty))) (hba : ba < w.heap.size)
    (hB : ∀ j, j < B.length → w.cell? ⟨bb, ob + j, none⟩ = some (.string (B.getD j ByteArray.empty))) (hbb : bb < w.heap.size) :
    Calls Try.prog 10 #[.slice (some ⟨ba, oa, none⟩) A.length ca, .slice (some ⟨bb, ob, none⟩) B.length cb] w fun e w' =>
      ∃ (E : List (Int × ByteArray)) (v : Value), Script A B E ∧ e = .returned v ∧ w'.ownsRow w.heap.size 33 2 v E.length (ecells E) ∧ Below w.heap.size w w' := by
  obtain ⟨i33, hi, hz0, hz1, hz2⟩ := info_parts Try.info33
  obtain ⟨i3, hi3, hy0, hy1, hy2⟩ := info_parts Try.info3
  obtain ⟨i34, hi34, hx0, hx1, hx2⟩ := info_parts Try.info34
  have HA : Hid (∀ j, j < A.length → w.cell? ⟨ba, oa + j, none⟩ = some (.string (A.getD j ByteArray.empty))) := hA
  have HB : Hid (∀ j, j < B.length → w.cell? ⟨bb, ob + j, none⟩ = some (.string (B.getD j ByteArray.empty))) := hB
  clear hA hB
  have hNe : ((A.length : Int) == 0) = false := beq_eq_false_iff_ne.2 (by omega)
  have hMe : ((B.length : Int) == 0) = false := beq_eq_false_iff_ne.2 (by omega)
  go_enter Try.func10, Try.ntmps10
  go_wp2_with (at_make; refine wpList_make_own _ rfl _ _ 30 rfl w.heap.size 33 i33 _ 2 Try.underlying30 hi hz0 hz1 _ _ _ (A.length + B.length) rfl rfl (by omega) (by rw [hz2]; omega) (by unfold maxLen; omega) (Nat.le_refl _) ?_)
  intro w1 hed hg1
  go_wp2_with (at_make; refine wpList_make_full _ rfl _ _ 34 rfl w1.heap.size 3 i3 _ 1 Try.underlying34 hi3 hy0 hy1 _ _ _ _ (2 * (A.length + B.length + 1) + 1) rfl rfl (by omega) (by omega) (by rw [hy2]; omega) (by unfold maxLen; omega) (Nat.le_refl _) ?_)
  intro w2 hv hg2
  have hvv : w2.ownsRow w1.heap.size 3 1 (.slice (some ⟨w1.heap.size, 0, none⟩) (2 * (A.length + B.length + 1) + 1) (2 * (A.length + B.length + 1) + 1)) (2 * (A.length + B.length + 1) + 1) ((List.replicate (2 * (A.length + B.length + 1) + 1) (0 : Int)).map (Value.int .i64)) := by
    rw [← made_zero, Nat.mul_one]; exact hv
  have hge := (hed.lt _ rfl).2
  have hmem0 : Mem A B w w2 w.heap.size (A.length + B.length) w1.heap.size (2 * (A.length + B.length + 1) + 1) 0 (.slice none 0 0) (List.replicate (2 * (A.length + B.length + 1) + 1) (0 : Int)) := by
    refine ⟨?_, hed.kept hg2 (.inr (by simp [Value.ownBlock])), hvv, ⟨[], World.ownsRow_nil _ _ _ _, fun _ h => by omega⟩, hge⟩
    exact ((Below.refl _ w).grown hg1 (Nat.le_refl _) (by rintro k ⟨⟩)).grown hg2 (by have := hg1.size; omega) (by rintro k ⟨⟩)
  have hmem : ∃ vl, Mem A B w w2 w.heap.size (A.length + B.length) w1.heap.size (2 * (A.length + B.length + 1) + 1) 0 (.slice none 0 0) vl ∧ VLd A B 0 (A.length + B.length + 1) vl := ⟨_, hmem0, by
    rintro k (⟨_, rfl⟩ | ⟨e, he, _⟩)
    · simp [G, List.getD_eq_getElem?_getD, List.getElem?_replicate]
      split <;> rfl
    · omega⟩
  generalize w1.heap.size = gv at hmem hge ⊢
  clear hvv hmem0 hv hed hg1 hg2
  go_wp2
  obtain ⟨vl0, hm0, hv0⟩ := hmem
  go_loopg [12, 13] (A.length + B.length + 1) (fun gh tv dv wr => ∃ (d : Nat) (vl : List Int), dv = .int .i64 d ∧ Mem A B w wr w.heap.size (A.length + B.length) gv (2 * (A.length + B.length + 1) + 1) d tv vl ∧
      VLd A B d (A.length + B.length + 1) vl ∧ NotBefore A B d ∧ A.length + B.length + 1 - d ≤ gh)
  case atStart => exact ⟨0, vl0, rfl, hm0, hv0, fun d' h => by omega, by omega⟩
  case round =>
    obtain ⟨d, vl, rfl, hm, hvl, hnb, hgh⟩ := hrel
    clear hm0 hv0
    have hdN := notBefore_le hnb
    obtain ⟨xs, hxl, hxj, hxk⟩ := part_of hvl (by omega) rfl hm.vlen
    have hcx : ∀ j u, (xs.map (Value.int .i64))[j]? = some u → wr.cell? ((⟨gv, A.length + B.length + 1 - d - 1, none⟩ : Addr).add j) = some u := by
      intro j u hj
      have hjl : j < 2 * d + 3 := by
        have := (List.getElem?_eq_some_iff.1 hj).1
        simpa [hxl] using this
      rw [List.getElem?_map, hxj j hjl] at hj
      simp only [Option.map_some, Option.some.injEq] at hj
      subst hj
      rw [Addr.add_lit]
      exact hm.cell _ (by omega)
    have HXK : Hid (∀ k, U d k → xs[(k + d + 1).toNat]? = some (G A B d k)) := hxk
    clear hxj hxk
    have hm2 : A.length + B.length + 1 + d + 2 - (A.length + B.length + 1 - d - 1) = 2 * d + 3 := by omega
    have HM2 : Hid (A.length + B.length + 1 + d + 2 - (A.length + B.length + 1 - d - 1) = 2 * d + 3) := hm2
    have hxl2 : (xs.map (Value.int .i64)).length = (A.length + B.length + 1 + d + 2 - (A.length + B.length + 1 - d - 1)) * 1 := by simp [hxl]; omega
    clear hm2 hxl
    go_wp2_with (at_builtin; refine wpList_append_own _ rfl (.const (.slice none 0 0)) (.tmp 78) 34 rfl wr.heap.size 3 i3 (.int .i64 0) 1 8 Try.underlying34 hi3 hy0 hy1 hy2 rfl (by decide) (.slice none 0 0) 0 [] rfl (World.ownsRow_nil _ _ _ _) ⟨gv, A.length + B.length + 1 - d - 1, none⟩ (A.length + B.length + 1 + d + 2 - (A.length + B.length + 1 - d - 1)) _ (xs.map (Value.int .i64)) rfl hxl2 hcx (ints_oneCell _ _) (by unfold maxLen; omega) (by omega) (Nat.le_refl _) ?_)
    intro v1 w3 hown1 hgrow1 _
    rw [HM2.out] at hown1
    obtain ⟨g1, c1, rfl, hg1, -⟩ := own_shape hown1 (by omega)
    obtain ⟨tc, ht, hr⟩ := hm.tr
    have ht1 := ht.kept hgrow1 (by cases h : u12.ownBlock with | none => exact .inl rfl | some k => exact .inr (by simp [Value.ownBlock]))
    have hsz := (ht1.alloc (.cells #[.slice (some ⟨g1, 0, none⟩) (2 * d + 3) c1] 34))
    have hgz : gv + 1 ≤ w3.heap.size := by have := (hm.v.lt gv rfl).2; have := hgrow1.size; omega
    clear hcx hxl2 ht1
    go_wp2_with (at_builtin; refine wpList_append_own _ rfl (.tmp 68) (.tmp 80) 35 rfl (gv + 1) 34 i34 (.slice none 0 0) 1 24 Try.underlying35 hi34 hx0 hx1 hx2 rfl (by decide) u12 d tc rfl hsz ⟨w3.heap.size, 0, none⟩ 1 1 [.slice (some ⟨g1, 0, none⟩) (2 * d + 3) c1] rfl rfl (cell_one_new _ _ _) (by intro u hu; simp at hu; subst hu; rfl) (by unfold maxLen; omega) (by omega) (by simp; omega) ?_)
    intro tv' w4 hown4 hgrow4 _
    have hm4 := hm.push hown1 hgrow1 tc ht hr hown4 hgrow4 HXK.out
    clear hown1 hgrow1 ht hr hown4 hgrow4 hsz hm hgz HXK HM2
    obtain ⟨gt, ct, rfl, -⟩ := hm4.trace
    have HKS : KS A B d (A.length + B.length + 1) (-(d : Int)) vl := ks_start hvl
    clear hvl
    have HNB : Hid (NotBefore A B d) := hnb
    clear hnb
    go_wp2
    go_loopg [14] (2 * d + 2) (fun gh kv wr => ∃ (k : Int) (vl' : List Int), kv = .int .i64 k ∧ -(d : Int) ≤ k ∧ k ≤ d + 2 ∧ (k + d) % 2 = 0 ∧ Mem A B w wr w.heap.size (A.length + B.length) gv (2 * (A.length + B.length + 1) + 1) (d + 1) (.slice (some ⟨gt, 0, none⟩) (d + 1) ct) vl' ∧
        KS A B d (A.length + B.length + 1) k vl' ∧ (d + 2 - k).toNat ≤ gh)
    case atStart => exact ⟨_, vl, rfl, by omega, by omega, by omega, hm4, HKS, by omega⟩
    case round =>
      obtain ⟨k, vl', rfl, k1, k2, k3, hm, hks, hgh2⟩ := hrel
      clear hm4 HKS
      by_cases hkd : k ≤ d
      · have v : V d k := ⟨k1, hkd, k3⟩
        have hxl := X_lb A B d k v
        have hxu := X_ub A B d k
        have hgu := G_ub A B (d + 1) k
        have hxs := sl_ge A B k (stepX d (G A B d) k)
        have hsl : sl A B k (stepX d (G A B d) k) = G A B (d + 1) k := rfl
        have hc1 := hm.cell (k + 1 + ((A.length : Int) + B.length + 1)).toNat (by omega)
        have hcs := hm.cell (k + ((A.length : Int) + B.length + 1)).toNat (by omega)
        have hfs := hm.free (k + ((A.length : Int) + B.length + 1)).toNat
        have hvu := hks.1
        have HSL : Hid (G A B (d + 1) k = G A B (d + 1) k) := rfl
        by_cases hk1 : k = -(d : Int)
        · have hr : right A B d k = false := by unfold right; exact decide_eq_false (fun h => h.1 hk1)
          have hU : U d (k + 1) := by
            by_cases h0 : d = 0
            · exact .inl ⟨h0, by omega⟩
            · exact .inr ⟨d - 1, by omega, by omega, by omega, by omega⟩
          have hq := hvu _ hU
          rw [← stepX_of_down hr, show (k + 1 + ((A.length + B.length + 1 : Nat) : Int)).toNat = (k + 1 + ((A.length : Int) + B.length + 1)).toNat by omega] at hq
          rw [hq] at hc1
          generalize stepX d (G A B d) k = X0 at hc1 hxl hxu hxs hsl
          have hb1 : (k != -(d : Int)) = false := by simp; omega
          have HX : Hid (sl A B k X0 = G A B (d + 1) k) := hsl
          clear hvu hk1 hr hU hq hsl
          go_wp2
          go_quiet (fail)
          go_wp2
          clear hb1 hc1
          have HKS : Hid (KS A B d (A.length + B.length + 1) k vl') := hks
          have HG : Hid (∀ GK, G A B (d + 1) k = GK → sl A B k (X0) = GK) := fun GK h => HX.out.trans h
          clear hks HSL
          generalize hGK : G A B (d + 1) k = GK at hgu hxs
          have HGK : Hid (G A B (d + 1) k = GK) := hGK
          have HX' : Hid (sl A B k (X0) = GK) := HG.out GK hGK
          have hxs' : X0 ≤ GK := by have := sl_ge A B k (X0); rw [HX'.out] at this; exact this
          have hm' := hm.drewN nq
          clear hGK HX HG hcs hfs
          obtain ⟨wo, rfl⟩ : ∃ wo : World, wo = wr := ⟨_, rfl⟩
          go_loopw [15, 16] (fun xv yv wr3 => ∃ x : Int, xv = .int .i64 x ∧ yv = .int .i64 (x - k) ∧ X0 ≤ x ∧ x ≤ GK ∧ Hid (sl A B k x = GK) ∧ Mem A B w wr3 w.heap.size (A.length + B.length) gv (2 * (A.length + B.length + 1) + 1) (d + 1) (.slice (some ⟨gt, 0, none⟩) (d + 1) ct) vl') (fun xv _ _ => (GK - intOf xv).toNat)
          case atStart => exact ⟨X0, by go_num, by go_num, Int.le_refl _, by omega, HX', hm'⟩
          case round =>
            obtain ⟨x, rfl, rfl, x1, x2, HS, hm3⟩ := hrel
            clear hm hm'
            have htail : ∀ wq : World, True := fun _ => trivial
            clear htail
            by_cases hxN : x < A.length
            · by_cases hyM : x - k < B.length
              · have hcA := (hm3.below.cell (p := ⟨ba, oa + x.toNat, none⟩) hba).trans (HA.out x.toNat (by omega))
                have hcB := (hm3.below.cell (p := ⟨bb, ob + (x - k).toNat, none⟩) hbb).trans (HB.out (x - k).toNat (by omega))
                by_cases heq : A.getD x.toNat ByteArray.empty = B.getD (x - k).toNat ByteArray.empty
                · have HE : Hid (A[x.toNat]? = B[(x - k).toNat]?) := by
                    show _ = _
                    simp only [List.getD_eq_getElem?_getD, List.getElem?_eq_getElem (show x.toNat < A.length by omega), List.getElem?_eq_getElem (show (x - k).toNat < B.length by omega), Option.getD_some] at heq
                    rw [List.getElem?_eq_getElem (show x.toNat < A.length by omega), List.getElem?_eq_getElem (show (x - k).toNat < B.length by omega), heq]
                  rw [← heq] at hcB
                  generalize A.getD x.toNat ByteArray.empty = s at hcA hcB
                  have hb5 : (s.toList == s.toList) = true := by simp
                  have hstep := sl_step A B k x (by omega) (by omega) hxN hyM HE.out
                  have HS2 : Hid (sl A B k (x + 1) = GK) := hstep.symm.trans HS.out
                  have hx2 : x + 1 ≤ GK := by have := sl_ge A B k (x + 1); rw [HS2.out] at this; exact this
                  clear heq hstep HE HS
                  go_wp2
                  go_quiet (fail)
                  go_wp2
                  go_roundw
                  case rel => exact ⟨x + 1, by go_num, by go_num, by omega, hx2, HS2, hm3.drewN _⟩
                  case measure => simp [intOf]; omega
                · have hGx : GK = x := by
                    rw [← HS.out]
                    apply sl_zero
                    rintro ⟨h1, h2, h3⟩
                    apply heq
                    simp only [List.getD_eq_getElem?_getD, h3]
                  generalize A.getD x.toNat ByteArray.empty = s at hcA heq
                  generalize B.getD (x - k).toNat ByteArray.empty = t at hcB heq
                  have hb5 : (s.toList == t.toList) = false := by rw [toList_beq]; exact decide_eq_false heq
                  subst hGx
                  clear heq HS
                  go_wp2
                  go_quiet (fail)
                  clear hcA hcB hb5
                  have hm5 := hm3.drewN nq
                  have hcs := hm5.cell (k + ((A.length : Int) + B.length + 1)).toNat (by omega)
                  have hfs := hm5.free (k + ((A.length : Int) + B.length + 1)).toNat
                  have hm6 := hm5.set (k + ((A.length : Int) + B.length + 1)).toNat GK
                  by_cases hdone : (A.length : Int) ≤ GK ∧ (B.length : Int) ≤ GK - k
                  · omega
                  · have hnd : ¬ Done A B d k := by
                      rintro ⟨hd1, hd2⟩
                      rw [HGK.out] at hd1 hd2
                      exact hdone ⟨hd1, hd2⟩
                    have HK2 := ks_step HKS.out v (by omega) hm5.vlen hnd
                    rw [HGK.out, show (k + ((A.length + B.length + 1 : Nat) : Int)).toNat = (k + ((A.length : Int) + B.length + 1)).toNat by omega] at HK2
                    have HK3 : Hid (KS A B d (A.length + B.length + 1) (k + 2) (vl'.set (k + ((A.length : Int) + B.length + 1)).toNat GK)) := HK2
                    clear HK2 hnd hm3 hm5
                    go_wp2
                    all_goals
                      go_roundg (d + 2 - (k + 2)).toNat
                      case measure => omega
                      case rel => exact ⟨k + 2, _, by go_num, by omega, by omega, by omega, hm6, HK3.out, Nat.le_refl _⟩
              · have hGx : GK = x := by
                  rw [← HS.out]
                  apply sl_zero
                  rintro ⟨h1, h2, h3⟩
                  omega
                have hb5 : decide (x - k < (B.length : Int)) = false := decide_eq_false hyM
                subst hGx
                clear HS
                go_wp2
                go_quiet (fail)
                clear hb5
                have hm5 := hm3.drewN nq
                have hcs := hm5.cell (k + ((A.length : Int) + B.length + 1)).toNat (by omega)
                have hfs := hm5.free (k + ((A.length : Int) + B.length + 1)).toNat
                have hm6 := hm5.set (k + ((A.length : Int) + B.length + 1)).toNat GK
                by_cases hdone : (A.length : Int) ≤ GK ∧ (B.length : Int) ≤ GK - k
                · omega
                · have hnd : ¬ Done A B d k := by
                    rintro ⟨hd1, hd2⟩
                    rw [HGK.out] at hd1 hd2
                    exact hdone ⟨hd1, hd2⟩
                  have HK2 := ks_step HKS.out v (by omega) hm5.vlen hnd
                  rw [HGK.out, show (k + ((A.length + B.length + 1 : Nat) : Int)).toNat = (k + ((A.length : Int) + B.length + 1)).toNat by omega] at HK2
                  have HK3 : Hid (KS A B d (A.length + B.length + 1) (k + 2) (vl'.set (k + ((A.length : Int) + B.length + 1)).toNat GK)) := HK2
                  clear HK2 hnd hm3 hm5
                  go_wp2
                  all_goals
                    go_roundg (d + 2 - (k + 2)).toNat
                    case measure => omega
                    case rel => exact ⟨k + 2, _, by go_num, by omega, by omega, by omega, hm6, HK3.out, Nat.le_refl _⟩
            · have hGx : GK = x := by
                rw [← HS.out]
                apply sl_zero
                rintro ⟨h1, h2, h3⟩
                omega
              have hb5 : decide (x < (A.length : Int)) = false := decide_eq_false hxN
              subst hGx
              clear HS
              go_wp2
              go_quiet (fail)
              clear hb5
              have hm5 := hm3.drewN nq
              have hcs := hm5.cell (k + ((A.length : Int) + B.length + 1)).toNat (by omega)
              have hfs := hm5.free (k + ((A.length : Int) + B.length + 1)).toNat
              have hm6 := hm5.set (k + ((A.length : Int) + B.length + 1)).toNat GK
              by_cases hdone : (A.length : Int) ≤ GK ∧ (B.length : Int) ≤ GK - k
              · obtain ⟨hd1, hd2⟩ := hdone
                have hF : First A B d := ⟨⟨k, v, by rw [← HGK.out] at hd1 hd2; exact ⟨hd1, hd2⟩⟩, HNB.out⟩
                go_wp2_with (go_at_call 11; refine (back_any A B d ba oa ca bb ob cb gt ct w.heap.size (A.length + B.length) w.heap.size _ hN hM (fun j hj => (hm6.below.cell (p := ⟨ba, oa + j, none⟩) hba).trans (HA.out j hj)) (by omega) (fun j hj => (hm6.below.cell (p := ⟨bb, ob + j, none⟩) hbb).trans (HB.out j hj)) (by omega) hm6.trace' hF (by omega) hm6.ed (Nat.le_refl _)).mono ?_; rintro e w7 ⟨rfl, ho7, hg7⟩)
                go_ret
                exact ⟨_, _, ⟨d, hF, rfl⟩, rfl, ho7, back_below hm6.below hg7 (hm6.ed.lt _ rfl).2⟩
              · have hnd : ¬ Done A B d k := by
                  rintro ⟨hd1, hd2⟩
                  rw [HGK.out] at hd1 hd2
                  exact hdone ⟨hd1, hd2⟩
                have HK2 := ks_step HKS.out v (by omega) hm5.vlen hnd
                rw [HGK.out, show (k + ((A.length + B.length + 1 : Nat) : Int)).toNat = (k + ((A.length : Int) + B.length + 1)).toNat by omega] at HK2
                have HK3 : Hid (KS A B d (A.length + B.length + 1) (k + 2) (vl'.set (k + ((A.length : Int) + B.length + 1)).toNat GK)) := HK2
                clear HK2 hnd hm3 hm5
                go_wp2
                all_goals
                  go_roundg (d + 2 - (k + 2)).toNat
                  case measure => omega
                  case rel => exact ⟨k + 2, _, by go_num, by omega, by omega, by omega, hm6, HK3.out, Nat.le_refl _⟩
        · have hb1 : (k != -(d : Int)) = true := by simp; omega
          have hU0 : U d (k - 1) := .inr ⟨d - 1, by omega, by omega, by omega, by omega⟩
          have hq0 := hvu _ hU0
          have hc0 := hm.cell (k - 1 + ((A.length : Int) + B.length + 1)).toNat (by omega)
          rw [show (k - 1 + ((A.length + B.length + 1 : Nat) : Int)).toNat = (k - 1 + ((A.length : Int) + B.length + 1)).toNat by omega] at hq0
          rw [hq0] at hc0
          by_cases hk2 : k = (d : Int)
          · have hr : right A B d k = true := by unfold right; exact decide_eq_true ⟨hk1, .inl hk2⟩
            rw [stepX_of_right hr] at hxl hxu hxs hsl
            generalize vl'.getD (k + 1 + ((A.length : Int) + B.length + 1)).toNat 0 = q1 at hc1
            generalize G A B d (k - 1) = q0 at hc0 hxl hxu hxs hsl
            have hb2 : (k == (d : Int)) = true := by simp; omega
            have HX : Hid (sl A B k (q0 + 1) = G A B (d + 1) k) := hsl
            clear hvu hk1 hk2 hr hU0 hq0 hsl
            go_wp2
            go_quiet (fail)
            go_wp2
            clear hb1 hb2 hc1 hc0
            have HKS : Hid (KS A B d (A.length + B.length + 1) k vl') := hks
            have HG : Hid (∀ GK, G A B (d + 1) k = GK → sl A B k (q0 + 1) = GK) := fun GK h => HX.out.trans h
            clear hks HSL
            generalize hGK : G A B (d + 1) k = GK at hgu hxs
            have HGK : Hid (G A B (d + 1) k = GK) := hGK
            have HX' : Hid (sl A B k (q0 + 1) = GK) := HG.out GK hGK
            have hxs' : q0 + 1 ≤ GK := by have := sl_ge A B k (q0 + 1); rw [HX'.out] at this; exact this
            have hm' := hm.drewN nq
            clear hGK HX HG hcs hfs
            obtain ⟨wo, rfl⟩ : ∃ wo : World, wo = wr := ⟨_, rfl⟩
            go_loopw [15, 16] (fun xv yv wr3 => ∃ x : Int, xv = .int .i64 x ∧ yv = .int .i64 (x - k) ∧ q0 + 1 ≤ x ∧ x ≤ GK ∧ Hid (sl A B k x = GK) ∧ Mem A B w wr3 w.heap.size (A.length + B.length) gv (2 * (A.length + B.length + 1) + 1) (d + 1) (.slice (some ⟨gt, 0, none⟩) (d + 1) ct) vl') (fun xv _ _ => (GK - intOf xv).toNat)
            case atStart => exact ⟨q0 + 1, by go_num, by go_num, Int.le_refl _, by omega, HX', hm'⟩
            case round =>
              obtain ⟨x, rfl, rfl, x1, x2, HS, hm3⟩ := hrel
              clear hm hm'
              have htail : ∀ wq : World, True := fun _ => trivial
              clear htail
              by_cases hxN : x < A.length
              · by_cases hyM : x - k < B.length
                · have hcA := (hm3.below.cell (p := ⟨ba, oa + x.toNat, none⟩) hba).trans (HA.out x.toNat (by omega))
                  have hcB := (hm3.below.cell (p := ⟨bb, ob + (x - k).toNat, none⟩) hbb).trans (HB.out (x - k).toNat (by omega))
                  by_cases heq : A.getD x.toNat ByteArray.empty = B.getD (x - k).toNat ByteArray.empty
                  · have HE : Hid (A[x.toNat]? = B[(x - k).toNat]?) := by
                      show _ = _
                      simp only [List.getD_eq_getElem?_getD, List.getElem?_eq_getElem (show x.toNat < A.length by omega), List.getElem?_eq_getElem (show (x - k).toNat < B.length by omega), Option.getD_some] at heq
                      rw [List.getElem?_eq_getElem (show x.toNat < A.length by omega), List.getElem?_eq_getElem (show (x - k).toNat < B.length by omega), heq]
                    rw [← heq] at hcB
                    generalize A.getD x.toNat ByteArray.empty = s at hcA hcB
                    have hb5 : (s.toList == s.toList) = true := by simp
                    have hstep := sl_step A B k x (by omega) (by omega) hxN hyM HE.out
                    have HS2 : Hid (sl A B k (x + 1) = GK) := hstep.symm.trans HS.out
                    have hx2 : x + 1 ≤ GK := by have := sl_ge A B k (x + 1); rw [HS2.out] at this; exact this
                    clear heq hstep HE HS
                    go_wp2
                    go_quiet (fail)
                    go_wp2
                    go_roundw
                    case rel => exact ⟨x + 1, by go_num, by go_num, by omega, hx2, HS2, hm3.drewN _⟩
                    case measure => simp [intOf]; omega
                  · have hGx : GK = x := by
                      rw [← HS.out]
                      apply sl_zero
                      rintro ⟨h1, h2, h3⟩
                      apply heq
                      simp only [List.getD_eq_getElem?_getD, h3]
                    generalize A.getD x.toNat ByteArray.empty = s at hcA heq
                    generalize B.getD (x - k).toNat ByteArray.empty = t at hcB heq
                    have hb5 : (s.toList == t.toList) = false := by rw [toList_beq]; exact decide_eq_false heq
                    subst hGx
                    clear heq HS
                    go_wp2
                    go_quiet (fail)
                    clear hcA hcB hb5
                    have hm5 := hm3.drewN nq
                    have hcs := hm5.cell (k + ((A.length : Int) + B.length + 1)).toNat (by omega)
                    have hfs := hm5.free (k + ((A.length : Int) + B.length + 1)).toNat
                    have hm6 := hm5.set (k + ((A.length : Int) + B.length + 1)).toNat GK
                    by_cases hdone : (A.length : Int) ≤ GK ∧ (B.length : Int) ≤ GK - k
                    · omega
                    · have hnd : ¬ Done A B d k := by
                        rintro ⟨hd1, hd2⟩
                        rw [HGK.out] at hd1 hd2
                        exact hdone ⟨hd1, hd2⟩
                      have HK2 := ks_step HKS.out v (by omega) hm5.vlen hnd
                      rw [HGK.out, show (k + ((A.length + B.length + 1 : Nat) : Int)).toNat = (k + ((A.length : Int) + B.length + 1)).toNat by omega] at HK2
                      have HK3 : Hid (KS A B d (A.length + B.length + 1) (k + 2) (vl'.set (k + ((A.length : Int) + B.length + 1)).toNat GK)) := HK2
                      clear HK2 hnd hm3 hm5
                      go_wp2
                      all_goals
                        go_roundg (d + 2 - (k + 2)).toNat
                        case measure => omega
                        case rel => exact ⟨k + 2, _, by go_num, by omega, by omega, by omega, hm6, HK3.out, Nat.le_refl _⟩
                · have hGx : GK = x := by
                    rw [← HS.out]
                    apply sl_zero
                    rintro ⟨h1, h2, h3⟩
                    omega
                  have hb5 : decide (x - k < (B.length : Int)) = false := decide_eq_false hyM
                  subst hGx
                  clear HS
                  go_wp2
                  go_quiet (fail)
                  clear hb5
                  have hm5 := hm3.drewN nq
                  have hcs := hm5.cell (k + ((A.length : Int) + B.length + 1)).toNat (by omega)
                  have hfs := hm5.free (k + ((A.length : Int) + B.length + 1)).toNat
                  have hm6 := hm5.set (k + ((A.length : Int) + B.length + 1)).toNat GK
                  by_cases hdone : (A.length : Int) ≤ GK ∧ (B.length : Int) ≤ GK - k
                  · omega
                  · have hnd : ¬ Done A B d k := by
                      rintro ⟨hd1, hd2⟩
                      rw [HGK.out] at hd1 hd2
                      exact hdone ⟨hd1, hd2⟩
                    have HK2 := ks_step HKS.out v (by omega) hm5.vlen hnd
                    rw [HGK.out, show (k + ((A.length + B.length + 1 : Nat) : Int)).toNat = (k + ((A.length : Int) + B.length + 1)).toNat by omega] at HK2
                    have HK3 : Hid (KS A B d (A.length + B.length + 1) (k + 2) (vl'.set (k + ((A.length : Int) + B.length + 1)).toNat GK)) := HK2
                    clear HK2 hnd hm3 hm5
                    go_wp2
                    all_goals
                      go_roundg (d + 2 - (k + 2)).toNat
                      case measure => omega
                      case rel => exact ⟨k + 2, _, by go_num, by omega, by omega, by omega, hm6, HK3.out, Nat.le_refl _⟩
              · have hGx : GK = x := by
                  rw [← HS.out]
                  apply sl_zero
                  rintro ⟨h1, h2, h3⟩
                  omega
                have hb5 : decide (x < (A.length : Int)) = false := decide_eq_false hxN
                subst hGx
                clear HS
                go_wp2
                go_quiet (fail)
                clear hb5
                have hm5 := hm3.drewN nq
                have hcs := hm5.cell (k + ((A.length : Int) + B.length + 1)).toNat (by omega)
                have hfs := hm5.free (k + ((A.length : Int) + B.length + 1)).toNat
                have hm6 := hm5.set (k + ((A.length : Int) + B.length + 1)).toNat GK
                by_cases hdone : (A.length : Int) ≤ GK ∧ (B.length : Int) ≤ GK - k
                · obtain ⟨hd1, hd2⟩ := hdone
                  have hF : First A B d := ⟨⟨k, v, by rw [← HGK.out] at hd1 hd2; exact ⟨hd1, hd2⟩⟩, HNB.out⟩
                  go_wp2_with (go_at_call 11; refine (back_any A B d ba oa ca bb ob cb gt ct w.heap.size (A.length + B.length) w.heap.size _ hN hM (fun j hj => (hm6.below.cell (p := ⟨ba, oa + j, none⟩) hba).trans (HA.out j hj)) (by omega) (fun j hj => (hm6.below.cell (p := ⟨bb, ob + j, none⟩) hbb).trans (HB.out j hj)) (by omega) hm6.trace' hF (by omega) hm6.ed (Nat.le_refl _)).mono ?_; rintro e w7 ⟨rfl, ho7, hg7⟩)
                  go_ret
                  exact ⟨_, _, ⟨d, hF, rfl⟩, rfl, ho7, back_below hm6.below hg7 (hm6.ed.lt _ rfl).2⟩
                · have hnd : ¬ Done A B d k := by
                    rintro ⟨hd1, hd2⟩
                    rw [HGK.out] at hd1 hd2
                    exact hdone ⟨hd1, hd2⟩
                  have HK2 := ks_step HKS.out v (by omega) hm5.vlen hnd
                  rw [HGK.out, show (k + ((A.length + B.length + 1 : Nat) : Int)).toNat = (k + ((A.length : Int) + B.length + 1)).toNat by omega] at HK2
                  have HK3 : Hid (KS A B d (A.length + B.length + 1) (k + 2) (vl'.set (k + ((A.length : Int) + B.length + 1)).toNat GK)) := HK2
                  clear HK2 hnd hm3 hm5
                  go_wp2
                  all_goals
                    go_roundg (d + 2 - (k + 2)).toNat
                    case measure => omega
                    case rel => exact ⟨k + 2, _, by go_num, by omega, by omega, by omega, hm6, HK3.out, Nat.le_refl _⟩
          · have hb2 : (k == (d : Int)) = false := by simp; omega
            have hU : U d (k + 1) := .inr ⟨d - 1, by omega, by omega, by omega, by omega⟩
            have hq := hvu _ hU
            rw [show (k + 1 + ((A.length + B.length + 1 : Nat) : Int)).toNat = (k + 1 + ((A.length : Int) + B.length + 1)).toNat by omega] at hq
            rw [hq] at hc1
            by_cases hcmp : G A B d (k + 1) ≤ G A B d (k - 1)
            · have hr : right A B d k = true := by unfold right; exact decide_eq_true ⟨hk1, .inr hcmp⟩
              rw [stepX_of_right hr] at hxl hxu hxs hsl
              generalize G A B d (k + 1) = q1 at hc1 hcmp
              generalize G A B d (k - 1) = q0 at hc0 hxl hxu hxs hsl hcmp
              have hb3 : decide (q1 ≤ q0) = true := decide_eq_true hcmp
              have HX : Hid (sl A B k (q0 + 1) = G A B (d + 1) k) := hsl
              clear hvu hk1 hk2 hr hU hU0 hq hq0 hsl
              go_wp2
              go_quiet (fail)
              go_wp2
              clear hb1 hb2 hb3 hc1 hc0 hcmp
              have HKS : Hid (KS A B d (A.length + B.length + 1) k vl') := hks
              have HG : Hid (∀ GK, G A B (d + 1) k = GK → sl A B k (q0 + 1) = GK) := fun GK h => HX.out.trans h
              clear hks HSL
              generalize hGK : G A B (d + 1) k = GK at hgu hxs
              have HGK : Hid (G A B (d + 1) k = GK) := hGK
              have HX' : Hid (sl A B k (q0 + 1) = GK) := HG.out GK hGK
              have hxs' : q0 + 1 ≤ GK := by have := sl_ge A B k (q0 + 1); rw [HX'.out] at this; exact this
              have hm' := hm.drewN nq
              clear hGK HX HG hcs hfs
              obtain ⟨wo, rfl⟩ : ∃ wo : World, wo = wr := ⟨_, rfl⟩
              go_loopw [15, 16] (fun xv yv wr3 => ∃ x : Int, xv = .int .i64 x ∧ yv = .int .i64 (x - k) ∧ q0 + 1 ≤ x ∧ x ≤ GK ∧ Hid (sl A B k x = GK) ∧ Mem A B w wr3 w.heap.size (A.length + B.length) gv (2 * (A.length + B.length + 1) + 1) (d + 1) (.slice (some ⟨gt, 0, none⟩) (d + 1) ct) vl') (fun xv _ _ => (GK - intOf xv).toNat)
              case atStart => exact ⟨q0 + 1, by go_num, by go_num, Int.le_refl _, by omega, HX', hm'⟩
              case round =>
                obtain ⟨x, rfl, rfl, x1, x2, HS, hm3⟩ := hrel
                clear hm hm'
                have htail : ∀ wq : World, True := fun _ => trivial
                clear htail
                by_cases hxN : x < A.length
                · by_cases hyM : x - k < B.length
                  · have hcA := (hm3.below.cell (p := ⟨ba, oa + x.toNat, none⟩) hba).trans (HA.out x.toNat (by omega))
                    have hcB := (hm3.below.cell (p := ⟨bb, ob + (x - k).toNat, none⟩) hbb).trans (HB.out (x - k).toNat (by omega))
                    by_cases heq : A.getD x.toNat ByteArray.empty = B.getD (x - k).toNat ByteArray.empty
                    · have HE : Hid (A[x.toNat]? = B[(x - k).toNat]?) := by
                        show _ = _
                        simp only [List.getD_eq_getElem?_getD, List.getElem?_eq_getElem (show x.toNat < A.length by omega), List.getElem?_eq_getElem (show (x - k).toNat < B.length by omega), Option.getD_some] at heq
                        rw [List.getElem?_eq_getElem (show x.toNat < A.length by omega), List.getElem?_eq_getElem (show (x - k).toNat < B.length by omega), heq]
                      rw [← heq] at hcB
                      generalize A.getD x.toNat ByteArray.empty = s at hcA hcB
                      have hb5 : (s.toList == s.toList) = true := by simp
                      have hstep := sl_step A B k x (by omega) (by omega) hxN hyM HE.out
                      have HS2 : Hid (sl A B k (x + 1) = GK) := hstep.symm.trans HS.out
                      have hx2 : x + 1 ≤ GK := by have := sl_ge A B k (x + 1); rw [HS2.out] at this; exact this
                      clear heq hstep HE HS
                      go_wp2
                      go_quiet (fail)
                      go_wp2
                      go_roundw
                      case rel => exact ⟨x + 1, by go_num, by go_num, by omega, hx2, HS2, hm3.drewN _⟩
                      case measure => simp [intOf]; omega
                    · have hGx : GK = x := by
                        rw [← HS.out]
                        apply sl_zero
                        rintro ⟨h1, h2, h3⟩
                        apply heq
                        simp only [List.getD_eq_getElem?_getD, h3]
                      generalize A.getD x.toNat ByteArray.empty = s at hcA heq
                      generalize B.getD (x - k).toNat ByteArray.empty = t at hcB heq
                      have hb5 : (s.toList == t.toList) = false := by rw [toList_beq]; exact decide_eq_false heq
                      subst hGx
                      clear heq HS
                      go_wp2
                      go_quiet (fail)
                      clear hcA hcB hb5
                      have hm5 := hm3.drewN nq
                      have hcs := hm5.cell (k + ((A.length : Int) + B.length + 1)).toNat (by omega)
                      have hfs := hm5.free (k + ((A.length : Int) + B.length + 1)).toNat
                      have hm6 := hm5.set (k + ((A.length : Int) + B.length + 1)).toNat GK
                      by_cases hdone : (A.length : Int) ≤ GK ∧ (B.length : Int) ≤ GK - k
                      · omega
                      · have hnd : ¬ Done A B d k := by
                          rintro ⟨hd1, hd2⟩
                          rw [HGK.out] at hd1 hd2
                          exact hdone ⟨hd1, hd2⟩
                        have HK2 := ks_step HKS.out v (by omega) hm5.vlen hnd
                        rw [HGK.out, show (k + ((A.length + B.length + 1 : Nat) : Int)).toNat = (k + ((A.length : Int) + B.length + 1)).toNat by omega] at HK2
                        have HK3 : Hid (KS A B d (A.length + B.length + 1) (k + 2) (vl'.set (k + ((A.length : Int) + B.length + 1)).toNat GK)) := HK2
                        clear HK2 hnd hm3 hm5
                        go_wp2
                        all_goals
                          go_roundg (d + 2 - (k + 2)).toNat
                          case measure => omega
                          case rel => exact ⟨k + 2, _, by go_num, by omega, by omega, by omega, hm6, HK3.out, Nat.le_refl _⟩
                  · have hGx : GK = x := by
                      rw [← HS.out]
                      apply sl_zero
                      rintro ⟨h1, h2, h3⟩
                      omega
                    have hb5 : decide (x - k < (B.length : Int)) = false := decide_eq_false hyM
                    subst hGx
                    clear HS
                    go_wp2
                    go_quiet (fail)
                    clear hb5
                    have hm5 := hm3.drewN nq
                    have hcs := hm5.cell (k + ((A.length : Int) + B.length + 1)).toNat (by omega)
                    have hfs := hm5.free (k + ((A.length : Int) + B.length + 1)).toNat
                    have hm6 := hm5.set (k + ((A.length : Int) + B.length + 1)).toNat GK
                    by_cases hdone : (A.length : Int) ≤ GK ∧ (B.length : Int) ≤ GK - k
                    · omega
                    · have hnd : ¬ Done A B d k := by
                        rintro ⟨hd1, hd2⟩
                        rw [HGK.out] at hd1 hd2
                        exact hdone ⟨hd1, hd2⟩
                      have HK2 := ks_step HKS.out v (by omega) hm5.vlen hnd
                      rw [HGK.out, show (k + ((A.length + B.length + 1 : Nat) : Int)).toNat = (k + ((A.length : Int) + B.length + 1)).toNat by omega] at HK2
                      have HK3 : Hid (KS A B d (A.length + B.length + 1) (k + 2) (vl'.set (k + ((A.length : Int) + B.length + 1)).toNat GK)) := HK2
                      clear HK2 hnd hm3 hm5
                      go_wp2
                      all_goals
                        go_roundg (d + 2 - (k + 2)).toNat
                        case measure => omega
                        case rel => exact ⟨k + 2, _, by go_num, by omega, by omega, by omega, hm6, HK3.out, Nat.le_refl _⟩
                · have hGx : GK = x := by
                    rw [← HS.out]
                    apply sl_zero
                    rintro ⟨h1, h2, h3⟩
                    omega
                  have hb5 : decide (x < (A.length : Int)) = false := decide_eq_false hxN
                  subst hGx
                  clear HS
                  go_wp2
                  go_quiet (fail)
                  clear hb5
                  have hm5 := hm3.drewN nq
                  have hcs := hm5.cell (k + ((A.length : Int) + B.length + 1)).toNat (by omega)
                  have hfs := hm5.free (k + ((A.length : Int) + B.length + 1)).toNat
                  have hm6 := hm5.set (k + ((A.length : Int) + B.length + 1)).toNat GK
                  by_cases hdone : (A.length : Int) ≤ GK ∧ (B.length : Int) ≤ GK - k
                  · obtain ⟨hd1, hd2⟩ := hdone
                    have hF : First A B d := ⟨⟨k, v, by rw [← HGK.out] at hd1 hd2; exact ⟨hd1, hd2⟩⟩, HNB.out⟩
                    go_wp2_with (go_at_call 11; refine (back_any A B d ba oa ca bb ob cb gt ct w.heap.size (A.length + B.length) w.heap.size _ hN hM (fun j hj => (hm6.below.cell (p := ⟨ba, oa + j, none⟩) hba).trans (HA.out j hj)) (by omega) (fun j hj => (hm6.below.cell (p := ⟨bb, ob + j, none⟩) hbb).trans (HB.out j hj)) (by omega) hm6.trace' hF (by omega) hm6.ed (Nat.le_refl _)).mono ?_; rintro e w7 ⟨rfl, ho7, hg7⟩)
                    go_ret
                    exact ⟨_, _, ⟨d, hF, rfl⟩, rfl, ho7, back_below hm6.below hg7 (hm6.ed.lt _ rfl).2⟩
                  · have hnd : ¬ Done A B d k := by
                      rintro ⟨hd1, hd2⟩
                      rw [HGK.out] at hd1 hd2
                      exact hdone ⟨hd1, hd2⟩
                    have HK2 := ks_step HKS.out v (by omega) hm5.vlen hnd
                    rw [HGK.out, show (k + ((A.length + B.length + 1 : Nat) : Int)).toNat = (k + ((A.length : Int) + B.length + 1)).toNat by omega] at HK2
                    have HK3 : Hid (KS A B d (A.length + B.length + 1) (k + 2) (vl'.set (k + ((A.length : Int) + B.length + 1)).toNat GK)) := HK2
                    clear HK2 hnd hm3 hm5
                    go_wp2
                    all_goals
                      go_roundg (d + 2 - (k + 2)).toNat
                      case measure => omega
                      case rel => exact ⟨k + 2, _, by go_num, by omega, by omega, by omega, hm6, HK3.out, Nat.le_refl _⟩
            · have hr : right A B d k = false := by unfold right; exact decide_eq_false (fun h => by rcases h.2 with h | h; exact hk2 h; exact hcmp h)
              rw [stepX_of_down hr] at hxl hxu hxs hsl
              generalize G A B d (k + 1) = q1 at hc1 hxl hxu hxs hsl hcmp
              generalize G A B d (k - 1) = q0 at hc0 hcmp
              have hb3 : decide (q1 ≤ q0) = false := decide_eq_false hcmp
              have HX : Hid (sl A B k q1 = G A B (d + 1) k) := hsl
              clear hvu hk1 hk2 hr hU hU0 hq hq0 hsl
              go_wp2
              go_quiet (fail)
              go_wp2
              clear hb1 hb2 hb3 hc1 hc0 hcmp
              have HKS : Hid (KS A B d (A.length + B.length + 1) k vl') := hks
              have HG : Hid (∀ GK, G A B (d + 1) k = GK → sl A B k (q1) = GK) := fun GK h => HX.out.trans h
              clear hks HSL
              generalize hGK : G A B (d + 1) k = GK at hgu hxs
              have HGK : Hid (G A B (d + 1) k = GK) := hGK
              have HX' : Hid (sl A B k (q1) = GK) := HG.out GK hGK
              have hxs' : q1 ≤ GK := by have := sl_ge A B k (q1); rw [HX'.out] at this; exact this
              have hm' := hm.drewN nq
              clear hGK HX HG hcs hfs
              obtain ⟨wo, rfl⟩ : ∃ wo : World, wo = wr := ⟨_, rfl⟩
              go_loopw [15, 16] (fun xv yv wr3 => ∃ x : Int, xv = .int .i64 x ∧ yv = .int .i64 (x - k) ∧ q1 ≤ x ∧ x ≤ GK ∧ Hid (sl A B k x = GK) ∧ Mem A B w wr3 w.heap.size (A.length + B.length) gv (2 * (A.length + B.length + 1) + 1) (d + 1) (.slice (some ⟨gt, 0, none⟩) (d + 1) ct) vl') (fun xv _ _ => (GK - intOf xv).toNat)
              case atStart => exact ⟨q1, by go_num, by go_num, Int.le_refl _, by omega, HX', hm'⟩
              case round =>
                obtain ⟨x, rfl, rfl, x1, x2, HS, hm3⟩ := hrel
                clear hm hm'
                have htail : ∀ wq : World, True := fun _ => trivial
                clear htail
                by_cases hxN : x < A.length
                · by_cases hyM : x - k < B.length
                  · have hcA := (hm3.below.cell (p := ⟨ba, oa + x.toNat, none⟩) hba).trans (HA.out x.toNat (by omega))
                    have hcB := (hm3.below.cell (p := ⟨bb, ob + (x - k).toNat, none⟩) hbb).trans (HB.out (x - k).toNat (by omega))
                    by_cases heq : A.getD x.toNat ByteArray.empty = B.getD (x - k).toNat ByteArray.empty
                    · have HE : Hid (A[x.toNat]? = B[(x - k).toNat]?) := by
                        show _ = _
                        simp only [List.getD_eq_getElem?_getD, List.getElem?_eq_getElem (show x.toNat < A.length by omega), List.getElem?_eq_getElem (show (x - k).toNat < B.length by omega), Option.getD_some] at heq
                        rw [List.getElem?_eq_getElem (show x.toNat < A.length by omega), List.getElem?_eq_getElem (show (x - k).toNat < B.length by omega), heq]
                      rw [← heq] at hcB
                      generalize A.getD x.toNat ByteArray.empty = s at hcA hcB
                      have hb5 : (s.toList == s.toList) = true := by simp
                      have hstep := sl_step A B k x (by omega) (by omega) hxN hyM HE.out
                      have HS2 : Hid (sl A B k (x + 1) = GK) := hstep.symm.trans HS.out
                      have hx2 : x + 1 ≤ GK := by have := sl_ge A B k (x + 1); rw [HS2.out] at this; exact this
                      clear heq hstep HE HS
                      go_wp2
                      go_quiet (fail)
                      go_wp2
                      go_roundw
                      case rel => exact ⟨x + 1, by go_num, by go_num, by omega, hx2, HS2, hm3.drewN _⟩
                      case measure => simp [intOf]; omega
                    · have hGx : GK = x := by
                        rw [← HS.out]
                        apply sl_zero
                        rintro ⟨h1, h2, h3⟩
                        apply heq
                        simp only [List.getD_eq_getElem?_getD, h3]
                      generalize A.getD x.toNat ByteArray.empty = s at hcA heq
                      generalize B.getD (x - k).toNat ByteArray.empty = t at hcB heq
                      have hb5 : (s.toList == t.toList) = false := by rw [toList_beq]; exact decide_eq_false heq
                      subst hGx
                      clear heq HS
                      go_wp2
                      go_quiet (fail)
                      clear hcA hcB hb5
                      have hm5 := hm3.drewN nq
                      have hcs := hm5.cell (k + ((A.length : Int) + B.length + 1)).toNat (by omega)
                      have hfs := hm5.free (k + ((A.length : Int) + B.length + 1)).toNat
                      have hm6 := hm5.set (k + ((A.length : Int) + B.length + 1)).toNat GK
                      by_cases hdone : (A.length : Int) ≤ GK ∧ (B.length : Int) ≤ GK - k
                      · omega
                      · have hnd : ¬ Done A B d k := by
                          rintro ⟨hd1, hd2⟩
                          rw [HGK.out] at hd1 hd2
                          exact hdone ⟨hd1, hd2⟩
                        have HK2 := ks_step HKS.out v (by omega) hm5.vlen hnd
                        rw [HGK.out, show (k + ((A.length + B.length + 1 : Nat) : Int)).toNat = (k + ((A.length : Int) + B.length + 1)).toNat by omega] at HK2
                        have HK3 : Hid (KS A B d (A.length + B.length + 1) (k + 2) (vl'.set (k + ((A.length : Int) + B.length + 1)).toNat GK)) := HK2
                        clear HK2 hnd hm3 hm5
                        go_wp2
                        all_goals
                          go_roundg (d + 2 - (k + 2)).toNat
                          case measure => omega
                          case rel => exact ⟨k + 2, _, by go_num, by omega, by omega, by omega, hm6, HK3.out, Nat.le_refl _⟩
                  · have hGx : GK = x := by
                      rw [← HS.out]
                      apply sl_zero
                      rintro ⟨h1, h2, h3⟩
                      omega
                    have hb5 : decide (x - k < (B.length : Int)) = false := decide_eq_false hyM
                    subst hGx
                    clear HS
                    go_wp2
                    go_quiet (fail)
                    clear hb5
                    have hm5 := hm3.drewN nq
                    have hcs := hm5.cell (k + ((A.length : Int) + B.length + 1)).toNat (by omega)
                    have hfs := hm5.free (k + ((A.length : Int) + B.length + 1)).toNat
                    have hm6 := hm5.set (k + ((A.length : Int) + B.length + 1)).toNat GK
                    by_cases hdone : (A.length : Int) ≤ GK ∧ (B.length : Int) ≤ GK - k
                    · omega
                    · have hnd : ¬ Done A B d k := by
                        rintro ⟨hd1, hd2⟩
                        rw [HGK.out] at hd1 hd2
                        exact hdone ⟨hd1, hd2⟩
                      have HK2 := ks_step HKS.out v (by omega) hm5.vlen hnd
                      rw [HGK.out, show (k + ((A.length + B.length + 1 : Nat) : Int)).toNat = (k + ((A.length : Int) + B.length + 1)).toNat by omega] at HK2
                      have HK3 : Hid (KS A B d (A.length + B.length + 1) (k + 2) (vl'.set (k + ((A.length : Int) + B.length + 1)).toNat GK)) := HK2
                      clear HK2 hnd hm3 hm5
                      go_wp2
                      all_goals
                        go_roundg (d + 2 - (k + 2)).toNat
                        case measure => omega
                        case rel => exact ⟨k + 2, _, by go_num, by omega, by omega, by omega, hm6, HK3.out, Nat.le_refl _⟩
                · have hGx : GK = x := by
                    rw [← HS.out]
                    apply sl_zero
                    rintro ⟨h1, h2, h3⟩
                    omega
                  have hb5 : decide (x < (A.length : Int)) = false := decide_eq_false hxN
                  subst hGx
                  clear HS
                  go_wp2
                  go_quiet (fail)
                  clear hb5
                  have hm5 := hm3.drewN nq
                  have hcs := hm5.cell (k + ((A.length : Int) + B.length + 1)).toNat (by omega)
                  have hfs := hm5.free (k + ((A.length : Int) + B.length + 1)).toNat
                  have hm6 := hm5.set (k + ((A.length : Int) + B.length + 1)).toNat GK
                  by_cases hdone : (A.length : Int) ≤ GK ∧ (B.length : Int) ≤ GK - k
                  · obtain ⟨hd1, hd2⟩ := hdone
                    have hF : First A B d := ⟨⟨k, v, by rw [← HGK.out] at hd1 hd2; exact ⟨hd1, hd2⟩⟩, HNB.out⟩
                    go_wp2_with (go_at_call 11; refine (back_any A B d ba oa ca bb ob cb gt ct w.heap.size (A.length + B.length) w.heap.size _ hN hM (fun j hj => (hm6.below.cell (p := ⟨ba, oa + j, none⟩) hba).trans (HA.out j hj)) (by omega) (fun j hj => (hm6.below.cell (p := ⟨bb, ob + j, none⟩) hbb).trans (HB.out j hj)) (by omega) hm6.trace' hF (by omega) hm6.ed (Nat.le_refl _)).mono ?_; rintro e w7 ⟨rfl, ho7, hg7⟩)
                    go_ret
                    exact ⟨_, _, ⟨d, hF, rfl⟩, rfl, ho7, back_below hm6.below hg7 (hm6.ed.lt _ rfl).2⟩
                  · have hnd : ¬ Done A B d k := by
                      rintro ⟨hd1, hd2⟩
                      rw [HGK.out] at hd1 hd2
                      exact hdone ⟨hd1, hd2⟩
                    have HK2 := ks_step HKS.out v (by omega) hm5.vlen hnd
                    rw [HGK.out, show (k + ((A.length + B.length + 1 : Nat) : Int)).toNat = (k + ((A.length : Int) + B.length + 1)).toNat by omega] at HK2
                    have HK3 : Hid (KS A B d (A.length + B.length + 1) (k + 2) (vl'.set (k + ((A.length : Int) + B.length + 1)).toNat GK)) := HK2
                    clear HK2 hnd hm3 hm5
                    go_wp2
                    all_goals
                      go_roundg (d + 2 - (k + 2)).toNat
                      case measure => omega
                      case rel => exact ⟨k + 2, _, by go_num, by omega, by omega, by omega, hm6, HK3.out, Nat.le_refl _⟩
      · have HKE := ks_end hks (by omega) HNB.out
        clear hks
        go_wp2
        go_roundg (A.length + B.length + 1 - (d + 1))
        case measure => omega
        case rel => exact ⟨d + 1, vl', by go_num, hm, HKE.1, HKE.2, Nat.le_refl _⟩
end Go.Proofs.Qxb6618347a
