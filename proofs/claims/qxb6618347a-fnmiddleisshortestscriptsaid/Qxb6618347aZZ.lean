/-
  'middle' (10) and 'ZZMiddle' (7) by their contracts.
-/
import Derived.Test.Qxb6618347aMid
import Derived.Test.Qxb6618347aMidBare
import Derived.Test.Qxb6618347aBytes
namespace Go.Proofs.Qxb6618347a
open Go.RowKit

theorem script_len {A B : List ByteArray} {E : List (Int × ByteArray)} (h : Script A B E) : E.length ≤ A.length + B.length := by
  obtain ⟨d, hF, rfl⟩ := h
  have := path_length A B d _ _ (on_end hF)
  omega

theorem mid_any (A B : List ByteArray) (ao bo : Option Addr) (ca cb : Nat) (w : World) (hA : StrRow w ao A.length A) (hB : StrRow w bo B.length B) (hN : A.length ≤ 4096) (hM : B.length ≤ 4096) :
    Calls Try.prog 10 #[.slice ao A.length ca, .slice bo B.length cb] w fun e w' =>
      ∃ (E : List (Int × ByteArray)) (v : Value), Script A B E ∧ e = .returned v ∧ w'.ownsRow w.heap.size 33 2 v E.length (ecells E) ∧ Below w.heap.size w w' := by
  have hlt : ∀ {b o : Nat} {s : ByteArray}, w.cell? ⟨b, o, none⟩ = some (.string s) → b < w.heap.size := fun h => World.block_lt_of_cell? w _ h
  by_cases h0 : A.length = 0
  · obtain rfl : A = [] := List.eq_nil_of_length_eq_zero h0
    refine (mid_ins ao ca B bo cb w hM (fun j hj => ?_)).mono ?_
    · obtain ⟨_, h | ⟨b, off, rfl, hc⟩⟩ := hB
      · omega
      · exact ⟨b, off, rfl, hlt (hc j hj), hc j hj⟩
    · rintro e w' ⟨v, rfl, ho, hb⟩
      have hs := script_bare (A := []) (B := B) (.inl rfl)
      exact ⟨_, v, hs, rfl, by simpa using ho, hb⟩
  · obtain ⟨_, h | ⟨ba, oa, rfl, hcA⟩⟩ := hA
    · omega
    by_cases h1 : B.length = 0
    · obtain rfl : B = [] := List.eq_nil_of_length_eq_zero h1
      refine (mid_del A ba oa ca bo cb w (by omega) hN hcA (hlt (hcA 0 (by omega)))).mono ?_
      rintro e w' ⟨v, rfl, ho, hb⟩
      have hs := script_bare (A := A) (B := []) (.inr rfl)
      exact ⟨_, v, hs, rfl, by simpa using ho, hb⟩
    · obtain ⟨_, h | ⟨bb, ob, rfl, hcB⟩⟩ := hB
      · omega
      exact mid_full A B ba oa ca bb ob cb w (by omega) (by omega) hN hM hcA (hlt (hcA 0 (by omega))) hcB (hlt (hcB 0 (by omega)))

/-- n cells, of which the first k are f's, the rest z. -/
def part (f : Nat → Value) (z : Value) (n k : Nat) : List Value := (List.range n).map fun j => if j < k then f j else z
theorem part_length (f : Nat → Value) (z : Value) (n k : Nat) : (part f z n k).length = n := by simp [part]
theorem part_zero (f : Nat → Value) (z : Value) (n : Nat) : part f z n 0 = List.replicate n z := by
  apply List.ext_getElem?
  intro i
  by_cases h : i < n <;> simp [part, h]
theorem part_set (f : Nat → Value) (z : Value) (n k : Nat) : (part f z n k).set k (f k) = part f z n (k + 1) := by
  apply List.ext_getElem?
  intro i
  by_cases h : i < n
  · by_cases e : k = i
    · subst e; simp [part, h]
    · have : (i < k + 1) = (i < k) := by simp only [eq_iff_iff]; omega
      simp [part, h, e, this]
  · by_cases e : k = i
    · subst e; simp [part, h]
    · simp [part, h]
theorem part_full (f : Nat → Value) (z : Value) (n k : Nat) (h : n ≤ k) : part f z n k = (List.range n).map f := by
  unfold part
  apply List.map_congr_left
  intro j hj
  rw [List.mem_range] at hj
  rw [if_pos (by omega)]

/-- A made row is a slice value whatever it owns. -/
theorem own_form {w : World} {b : Nat} {e : TypeId} {size : Nat} {v : Value} {n : Nat} {xs : List Value} (h : w.ownsRow b e size v n xs) : ∃ ao c, v = .slice ao n c ∧ (0 < n → ∃ g, ao = some ⟨g, 0, none⟩) := by
  rcases h.2 with ⟨rfl, rfl⟩ | ⟨g, cap, cur, rfl, _⟩
  · exact ⟨none, 0, rfl, by omega⟩
  · exact ⟨_, cap, rfl, fun _ => ⟨g, rfl⟩⟩

def kcell (E : List (Int × ByteArray)) (j : Nat) : Value := .int .u8 (E.getD j (0, ByteArray.empty)).1
def lcell (E : List (Int × ByteArray)) (j : Nat) : Value := .string (E.getD j (0, ByteArray.empty)).2

set_option maxHeartbeats 2000000 in
set_option maxRecDepth 100000 in
theorem zz_any (A B : List ByteArray) (ao bo : Option Addr) (ca cb : Nat) (w : World) (hA : StrRow w ao A.length A) (hB : StrRow w bo B.length B) (hN : A.length ≤ 4096) (hM : B.length ≤ 4096) :
    Calls Try.prog 7 #[.slice ao A.length ca, .slice bo B.length cb] w fun e w' =>
      ∃ (E : List (Int × ByteArray)) (gk gl : Nat), Script A B E ∧ e = .returned (.tuple #[.slice (some ⟨gk, 0, none⟩) E.length E.length, .slice (some ⟨gl, 0, none⟩) E.length E.length]) ∧
        w'.ownsRow w.heap.size 5 1 (.slice (some ⟨gk, 0, none⟩) E.length E.length) E.length ((List.range E.length).map (kcell E)) ∧
        w'.ownsRow w.heap.size 9 1 (.slice (some ⟨gl, 0, none⟩) E.length E.length) E.length ((List.range E.length).map (lcell E)) ∧ Below w.heap.size w w' := by
  obtain ⟨i5, hi5, hz0, hz1, hz2⟩ := info_parts Try.info5
  obtain ⟨i9, hi9, hy0, hy1, hy2⟩ := info_parts Try.info9
  have HA : Hid (StrRow w ao A.length A) := hA
  have HB : Hid (StrRow w bo B.length B) := hB
  clear hA hB
  go_enter Try.func7, Try.ntmps7
  go_wp2_with (go_at_call 10; refine (mid_any A B ao bo ca cb _ HA.out HB.out hN hM).mono ?_)
  rintro e w1 ⟨E, v, hE, rfl, ho, hb⟩
  have hlen := script_len hE
  obtain ⟨eo, ce, rfl, hg⟩ := own_form ho
  have HE : Hid (Script A B E) := hE
  have HG : Hid (0 < E.length → ∃ g, eo = some ⟨g, 0, none⟩) := hg
  clear hE hg
  go_wp2_with (at_make; refine wpList_make_full _ rfl _ _ 25 rfl w.heap.size 5 i5 _ 1 Try.underlying25 hi5 hz0 hz1 _ _ _ _ E.length rfl rfl (by omega) (by omega) (by rw [hz2]; omega) (by unfold maxLen; omega) hb.size ?_)
  intro w2 hk hg2
  have ho2 := ho.kept hg2 (by cases h : (Value.slice eo E.length ce).ownBlock with | none => exact .inl rfl | some k => exact .inr (by simp))
  have hb2 := hb.grown hg2 hb.size (by rintro k ⟨⟩)
  have hk1 : w1.heap.size < w2.heap.size := (hk.lt _ rfl).2
  clear ho hg2
  generalize hgk : w1.heap.size = gk at hk hk1 ⊢
  have HK1 : Hid (w1.heap.size = gk) := hgk
  have hgkb : w.heap.size ≤ gk := by rw [← hgk]; exact hb.size
  have hneg : eo = none ∨ (Value.slice eo E.length ce).ownBlock ≠ some gk := by
    rcases ho2.2 with ⟨h, _⟩ | ⟨g, cap, cur, h, _, hh, _⟩
    · simp at h; exact .inl h.1
    · simp only [Value.slice.injEq] at h
      obtain ⟨rfl, _, rfl⟩ := h
      refine .inr ?_
      rcases hk.2 with ⟨h', _⟩ | ⟨g', cap', cur', h', _, hh', _⟩
      · simp at h'
      · simp only [Value.slice.injEq, Option.some.injEq, Addr.mk.injEq, and_true, true_and] at h'
        obtain ⟨rfl, _⟩ := h'
        simp only [Value.ownBlock, ne_eq, Option.some.injEq]
        rintro rfl
        rw [hh] at hh'
        simp at hh'
  clear hgk hb
  go_wp2_with (at_make; refine wpList_make_full _ rfl _ _ 22 rfl w.heap.size 9 i9 _ 1 Try.underlying22 hi9 hy0 hy1 _ _ _ _ E.length rfl rfl (by omega) (by omega) (by rw [hy2]; omega) (by unfold maxLen; omega) hb2.size ?_)
  intro w3 hl hg3
  have ho3 := ho2.kept hg3 (by cases h : (Value.slice eo E.length ce).ownBlock with | none => exact .inl rfl | some k => exact .inr (by simp))
  have hk3 := hk.kept hg3 (.inr (by simp [Value.ownBlock]))
  have hb3 := hb2.grown hg3 hb2.size (by rintro k ⟨⟩)
  generalize hgl : w2.heap.size = gl at hl hk1 ⊢
  have hglb : w.heap.size ≤ gl := by rw [← hgl]; exact hb2.size
  simp only [toList_madeCells_one, ← part_zero (kcell E)] at hk3
  simp only [toList_madeCells_one, ← part_zero (lcell E)] at hl
  clear hgl ho2 hk hg3 hb2
  go_wp2
  go_loopw [9] (fun i wr => ∃ (k : Nat), k ≤ E.length ∧ i = .int .i64 k ∧ wr.ownsRow w.heap.size 33 2 (.slice eo E.length ce) E.length (ecells E) ∧
      wr.ownsRow w.heap.size 5 1 (.slice (some ⟨gk, 0, none⟩) E.length E.length) E.length (part (kcell E) (.int .u8 0) E.length k) ∧
      wr.ownsRow w.heap.size 9 1 (.slice (some ⟨gl, 0, none⟩) E.length E.length) E.length (part (lcell E) (.string ByteArray.empty) E.length k) ∧ Below w.heap.size w wr) (fun i _ => E.length - (intOf i).toNat)
  case atStart => exact ⟨0, Nat.zero_le _, rfl, ho3, hk3, hl, hb3⟩
  case round =>
    obtain ⟨k, hk, rfl, he, hkk, hll, hbb⟩ := hrel
    clear ho3 hk3 hl hb3
    by_cases hlt : k < E.length
    · obtain ⟨g, rfl⟩ := HG.out (by omega)
      obtain ⟨c1, c2⟩ := ecells_at E k (E.getD k (0, ByteArray.empty)) (by simp [List.getD_eq_getElem?_getD, hlt])
      have r1 := (he.cellAt (k * 2) (by omega)).trans c1
      have r2 := (he.cellAt (k * 2 + 1) (by omega)).trans c2
      obtain ⟨y1, q1⟩ : ∃ u, wr.cell? ⟨gk, k, none⟩ = some u := ⟨_, (hkk.cellAt k (by omega)).trans (List.getElem?_eq_getElem (by rw [part_length]; exact hlt))⟩
      obtain ⟨y2, q2⟩ : ∃ u, wr.cell? ⟨gl, k, none⟩ = some u := ⟨_, (hll.cellAt k (by omega)).trans (List.getElem?_eq_getElem (by rw [part_length]; exact hlt))⟩
      have f1 := hkk.frozenAt k
      have f2 := hll.frozenAt k
      have n1 : ¬ g = gk := by
        rcases own_apart he hkk (by decide) with h | h
        · simp [Value.ownBlock] at h
        · simpa [Value.ownBlock] using h
      have n2 : ¬ g = gl := by
        rcases own_apart he hll (by decide) with h | h
        · simp [Value.ownBlock] at h
        · simpa [Value.ownBlock] using h
      have n3 : ¬ gk = gl := by omega
      have n3' : ¬ gl = gk := by omega
      obtain ⟨o1, g1⟩ := hkk.stored k (kcell E k)
      rw [part_set] at o1
      have hll1 := hll.kept g1 (.inr (by simpa [Value.ownBlock] using n3'))
      obtain ⟨o2, g2⟩ := hll1.stored k (lcell E k)
      rw [part_set] at o2
      have he2 := (he.kept g1 (.inr (by simpa [Value.ownBlock] using n1))).kept g2 (.inr (by simpa [Value.ownBlock] using n2))
      have hk2 := o1.kept g2 (.inr (by simpa [Value.ownBlock] using n3))
      have hb2 := (hbb.grown g1 hbb.size (by rintro k ⟨⟩; exact hgkb)).grown g2 (Nat.le_trans hbb.size g1.size) (by rintro k ⟨⟩; exact hglb)
      clear o1 g1 g2 hll1 he hkk hll hbb c1 c2
      unfold kcell lcell at o2 he2 hk2 hb2
      generalize (E.getD k (0, ByteArray.empty)).1 = a1 at r1 o2 he2 hk2 hb2
      generalize (E.getD k (0, ByteArray.empty)).2 = a2 at r2 o2 he2 hk2 hb2
      go_wp2
      go_roundw
      case rel => exact ⟨k + 1, by omega, by go_num, he2, hk2, o2, hb2⟩
      case measure => simp [intOf]; omega
    · go_wp2
      go_ret2
      rw [part_full _ _ _ _ (by omega)] at hkk hll
      exact ⟨E, gk, gl, HE.out, rfl, hkk, hll, hbb⟩
end Go.Proofs.Qxb6618347a
