/-
  The walk of 'middle' (10) where one list is empty.
-/
import Derived.Test.Qxb6618347aMidMem
namespace Go.Proofs.Qxb6618347a
open Go.RowKit

/-- The first k lines, each under one kind. -/
def tagged (c : Int) (B : List ByteArray) (k : Nat) : List (Int × ByteArray) := (B.take k).map fun l => (c, l)
theorem tagged_zero (c : Int) (B : List ByteArray) : tagged c B 0 = [] := by simp [tagged]
theorem tagged_all (c : Int) (B : List ByteArray) : tagged c B B.length = B.map fun l => (c, l) := by simp [tagged]
theorem tagged_snoc (c : Int) (B : List ByteArray) (k : Nat) (h : k < B.length) : ecells (tagged c B k) ++ [.int .u8 c, .string (B.getD k ByteArray.empty)] = ecells (tagged c B (k + 1)) := by
  unfold tagged
  rw [List.take_succ_eq_append_getElem h, List.map_append, ecells_append]
  simp [ecells, List.getD_eq_getElem?_getD, h]

set_option maxHeartbeats 2000000 in
set_option maxRecDepth 100000 in
/-- a is empty. -/
theorem mid_ins (ao : Option Addr) (ca : Nat) (B : List ByteArray) (bo : Option Addr) (cb : Nat) (w : World) (hM : B.length ≤ 4096)
    (hB : ∀ j, j < B.length → ∃ bb ob, bo = some ⟨bb, ob, none⟩ ∧ bb < w.heap.size ∧ w.cell? ⟨bb, ob + j, none⟩ = some (.string (B.getD j ByteArray.empty))) :
    Calls Try.prog 10 #[.slice ao 0 ca, .slice bo B.length cb] w fun e w' =>
      ∃ (v : Value), e = .returned v ∧ w'.ownsRow w.heap.size 33 2 v B.length (ecells (B.map fun l => (43, l))) ∧ Below w.heap.size w w' := by
  obtain ⟨i33, hi, hz0, hz1, hz2⟩ := info_parts Try.info33
  have HB : Hid (∀ j, j < B.length → ∃ bb ob, bo = some ⟨bb, ob, none⟩ ∧ bb < w.heap.size ∧ w.cell? ⟨bb, ob + j, none⟩ = some (.string (B.getD j ByteArray.empty))) := hB
  clear hB
  go_enter Try.func10, Try.ntmps10
  go_wp2_with (at_make; refine wpList_make_own _ rfl _ _ 30 rfl w.heap.size 33 i33 _ 2 Try.underlying30 hi hz0 hz1 _ _ _ B.length rfl rfl (by omega) (by rw [hz2]; omega) (by unfold maxLen; omega) (Nat.le_refl _) ?_)
  intro w1 hed hg1
  have hb1 : Below w.heap.size w w1 := (Below.refl _ w).grown hg1 (Nat.le_refl _) (by rintro k ⟨⟩)
  have hs1 := (hed.lt _ rfl).2
  clear hg1
  go_wp2
  refine wp_loop_rounds 1 ?_
  rw [rounds_succ]
  go_wp2
  go_loopw [5, 45] (fun ed i wr => ∃ (k : Nat), k ≤ B.length ∧ i = .int .i64 k ∧ ed = .slice (some ⟨w.heap.size, 0, none⟩) k B.length ∧ wr.ownsRow w.heap.size 33 2 (.slice (some ⟨w.heap.size, 0, none⟩) k B.length) k (ecells (tagged 43 B k)) ∧ Below w.heap.size w wr)
    (fun _ i _ => B.length - (intOf i).toNat)
  case atStart => exact ⟨0, Nat.zero_le _, rfl, rfl, by rw [tagged_zero]; exact hed, hb1⟩
  case round =>
    obtain ⟨k, hk, rfl, rfl, hown, hbel⟩ := hrel
    clear hed hb1
    by_cases hlt : k < B.length
    · obtain ⟨bb, ob, rfl, hbb, hc⟩ := HB.out k hlt
      have hcB := (hbel.cell (p := ⟨bb, ob + k, none⟩) hbb).trans hc
      generalize hs : B.getD k ByteArray.empty = s at hcB
      have HS : Hid (ecells (tagged 43 B k) ++ [.int .u8 43, .string s] = ecells (tagged 43 B (k + 1))) := by
        show _ = _
        rw [← hs]; exact tagged_snoc 43 B k hlt
      have hsz : w.heap.size ≤ wr.heap.size := hbel.size
      clear hs hc
      go_wp2_with (at_builtin; refine wpList_append_fits _ rfl _ _ 30 rfl w.heap.size 33 i33 2 Try.underlying30 hi hz1 w.heap.size k B.length _ rfl (hown.alloc _) ⟨wr.heap.size, 0, none⟩ 1 1 [.int .u8 43, .string s] rfl rfl (two_new _ _ _ _) (two_one _ _) hlt ?_)
      intro w2 hown2 hgr2
      rw [HS.out] at hown2
      have hbel2 := (hbel.alloc hsz (.cells #[.int .u8 43, .string s] 33)).grown hgr2 (by simp; omega) (by rintro k ⟨⟩; exact Nat.le_refl _)
      clear hown hgr2 hcB hbel
      go_wp2
      go_roundw
      case rel => exact ⟨k + 1, by omega, by go_num, rfl, hown2, hbel2⟩
      case measure => simp [intOf]; omega
    · go_wp2
      go_ret
      have hk2 : k = B.length := by omega
      rw [hk2, tagged_all] at hown
      exact ⟨_, rfl, by rw [hk2]; exact hown, hbel⟩

set_option maxHeartbeats 2000000 in
set_option maxRecDepth 100000 in
/-- b is empty, a is not. -/
theorem mid_del (A : List ByteArray) (ba oa ca : Nat) (bo : Option Addr) (cb : Nat) (w : World) (hN0 : 0 < A.length) (hN : A.length ≤ 4096)
    (hA : ∀ j, j < A.length → w.cell? ⟨ba, oa + j, none⟩ = some (.string (A.getD j ByteArray.empty))) (hba : ba < w.heap.size) :
    Calls Try.prog 10 #[.slice (some ⟨ba, oa, none⟩) A.length ca, .slice bo 0 cb] w fun e w' =>
      ∃ (v : Value), e = .returned v ∧ w'.ownsRow w.heap.size 33 2 v A.length (ecells (A.map fun l => (45, l))) ∧ Below w.heap.size w w' := by
  obtain ⟨i33, hi, hz0, hz1, hz2⟩ := info_parts Try.info33
  have HA : Hid (∀ j, j < A.length → w.cell? ⟨ba, oa + j, none⟩ = some (.string (A.getD j ByteArray.empty))) := hA
  clear hA
  have hNe : ((A.length : Int) == 0) = false := beq_eq_false_iff_ne.2 (by omega)
  go_enter Try.func10, Try.ntmps10
  go_wp2_with (at_make; refine wpList_make_own _ rfl _ _ 30 rfl w.heap.size 33 i33 _ 2 Try.underlying30 hi hz0 hz1 _ _ _ A.length rfl rfl (by omega) (by rw [hz2]; omega) (by unfold maxLen; omega) (Nat.le_refl _) ?_)
  intro w1 hed hg1
  have hb1 : Below w.heap.size w w1 := (Below.refl _ w).grown hg1 (Nat.le_refl _) (by rintro k ⟨⟩)
  clear hg1
  go_wp2
  go_loopw [5, 33] (fun ed i wr => ∃ (k : Nat), k ≤ A.length ∧ i = .int .i64 k ∧ ed = .slice (some ⟨w.heap.size, 0, none⟩) k A.length ∧ wr.ownsRow w.heap.size 33 2 (.slice (some ⟨w.heap.size, 0, none⟩) k A.length) k (ecells (tagged 45 A k)) ∧ Below w.heap.size w wr)
    (fun _ i _ => A.length - (intOf i).toNat)
  case atStart => exact ⟨0, Nat.zero_le _, rfl, rfl, by rw [tagged_zero]; exact hed, hb1⟩
  case round =>
    obtain ⟨k, hk, rfl, rfl, hown, hbel⟩ := hrel
    clear hed hb1
    by_cases hlt : k < A.length
    · have hcA := (hbel.cell (p := ⟨ba, oa + k, none⟩) hba).trans (HA.out k hlt)
      generalize hs : A.getD k ByteArray.empty = s at hcA
      have HS : Hid (ecells (tagged 45 A k) ++ [.int .u8 45, .string s] = ecells (tagged 45 A (k + 1))) := by
        show _ = _
        rw [← hs]; exact tagged_snoc 45 A k hlt
      have hsz : w.heap.size ≤ wr.heap.size := hbel.size
      clear hs
      go_wp2_with (at_builtin; refine wpList_append_fits _ rfl _ _ 30 rfl w.heap.size 33 i33 2 Try.underlying30 hi hz1 w.heap.size k A.length _ rfl (hown.alloc _) ⟨wr.heap.size, 0, none⟩ 1 1 [.int .u8 45, .string s] rfl rfl (two_new _ _ _ _) (two_one _ _) hlt ?_)
      intro w2 hown2 hgr2
      rw [HS.out] at hown2
      have hbel2 := (hbel.alloc hsz (.cells #[.int .u8 45, .string s] 33)).grown hgr2 (by simp; omega) (by rintro k ⟨⟩; exact Nat.le_refl _)
      clear hown hgr2 hcA hbel
      go_wp2
      go_roundw
      case rel => exact ⟨k + 1, by omega, by go_num, rfl, hown2, hbel2⟩
      case measure => simp [intOf]; omega
    · go_wp2
      refine wp_loop_rounds 1 ?_
      rw [rounds_succ]
      go_wp2
      go_ret
      have hk2 : k = A.length := by omega
      rw [hk2, tagged_all] at hown
      exact ⟨_, rfl, by rw [hk2]; exact hown, hbel⟩
end Go.Proofs.Qxb6618347a
