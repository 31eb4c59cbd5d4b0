/-
  The walk of FnMiddleKeepsCommonPrefix (4).
-/
import Derived.Test.Qxb6618347aLawBase
import Derived.Deep.DeepCutAuto
namespace Go.Proofs.Qxb6618347a
open Go.RowKit

theorem getD_app_left (P A : List ByteArray) (k : Nat) (h : k < P.length) : (P ++ A).getD k ByteArray.empty = P.getD k ByteArray.empty := by
  simp [List.getD_eq_getElem?_getD, List.getElem?_append_left h]
theorem getD_app_right (P A : List ByteArray) (k : Nat) : (P ++ A).getD (P.length + k) ByteArray.empty = A.getD k ByteArray.empty := by
  simp [List.getD_eq_getElem?_getD, List.getElem?_append_right (Nat.le_add_right _ _)]

theorem Try.size9 : (Try.prog.info? 9).map (·.size) = some 1 := by kernel_rfl

set_option maxHeartbeats 4000000 in
set_option maxRecDepth 100000 in
theorem law1 (P A B : List ByteArray) (po ao bo : Option Addr) (cp ca cb : Nat) (w : World) (hP : StrRow w po P.length P) (hA : StrRow w ao A.length A) (hB : StrRow w bo B.length B) :
    Calls Try.prog 4 #[.slice po P.length cp, .slice ao A.length ca, .slice bo B.length cb] w fun e w' => e = .returned (.bool true) ∧ Below w.heap.size w w' := by
  obtain ⟨i9, hi9, hy0, hy1, hy2⟩ := info_parts Try.info9
  have HP : Hid (StrRow w po P.length P) := hP
  have HA : Hid (StrRow w ao A.length A) := hA
  have HB : Hid (StrRow w bo B.length B) := hB
  clear hP hA hB
  go_enter Try.func4, Try.ntmps4
  go_wp2_with (go_at_call 9; refine (guard3 po ao bo P.length cp A.length ca B.length cb P A B _ HP.out HA.out HB.out).mono ?_)
  rintro e w1 ⟨r, rfl, rfl⟩
  cases r with
  | false =>
    go_wp2
    go_ret
    exact ⟨rfl, Below.refl _ _⟩
  | true =>
    by_cases h1 : 512 < P.length
    · go_wp2
      go_ret
      exact ⟨rfl, Below.refl _ _⟩
    by_cases h2 : 512 < A.length
    · go_wp2
      go_ret
      exact ⟨rfl, Below.refl _ _⟩
    by_cases h3 : 512 < B.length
    · go_wp2
      go_ret
      exact ⟨rfl, Below.refl _ _⟩
    go_upto_if 37 with fail
    go_cut [1, 7] (fun s1 _ wc => ∃ ao' ca', s1 = .slice ao' A.length ca' ∧ StrRow wc ao' A.length A ∧ Below w1.heap.size w1 wc)
    case first =>
      cases ao with
      | none =>
        go_wp2
        go_meet
        case rel => exact ⟨none, ca, rfl, HA.out, Below.refl _ _⟩
      | some a0 =>
        go_wp2_with (at_make; refine wpList_make_full _ rfl _ _ 22 rfl w1.heap.size 9 i9 _ 1 Try.underlying22 hi9 hy0 hy1 _ _ _ _ A.length rfl rfl (by omega) (by omega) (by rw [hy2]; omega) (by unfold maxLen; omega) (Nat.le_refl _) ?_)
        intro w2 hk hg2
        have hb2 : Below w1.heap.size w1 w2 := (Below.refl _ _).grown hg2 (Nat.le_refl _) (by rintro k ⟨⟩)
        have hrow : Hid (w2.heap[w1.heap.size]? = some (.cells (List.replicate A.length (.string ByteArray.empty)).toArray 9 (0, 0))) := made_row (by simpa [toList_madeCells_one] using hk)
        have hA2 : Hid (StrRow w2 (some a0) A.length A) := HA.out.later hb2
        clear hk hg2
        go_wp2_with (refine wpList_copy_splice rfl (.tmp 41) (.tmp 42) 22 22 rfl 9 Try.underlying22 Try.size9 (some ⟨w1.heap.size, 0, none⟩) (some a0) A.length A.length A.length ca rfl rfl w1.heap.size 0 (List.replicate A.length (.string ByteArray.empty)) 9 hrow.out ((List.range A.length).map (scell A)) (by simp) (src_cells hA2.out _) (by simp) (scells_one _ _) w1.heap.size w1 hb2 (Nat.le_refl _) ?_)
        intro w3 HG3 hb3
        go_wp2
        go_meet
        case rel => exact ⟨_, _, rfl, strRow_splice HG3.out rfl, hb3⟩
    case rest =>
      obtain ⟨ao', ca', rfl, hA3, hb3⟩ := hcut
      obtain ⟨wd, rfl⟩ : ∃ wd : World, wd = wc := ⟨_, rfl⟩
      have hP3 := HP.out.later hb3
      have hB3 := HB.out.later hb3
      have HA3 : Hid (StrRow wd ao' A.length A) := hA3
      have HP3 : Hid (StrRow wd po P.length P) := hP3
      have HB3 : Hid (StrRow wd bo B.length B) := hB3
      clear hA3 hP3 hB3 HP HA HB
      go_upto_if 46 with fail
      go_cut [2, 8] (fun s2 _ wx => ∃ bo' cb', s2 = .slice bo' B.length cb' ∧ StrRow wx bo' B.length B ∧ Below wd.heap.size wd wx)
      case first =>
        cases bo with
        | none =>
          go_wp2
          go_meet
          case rel => exact ⟨none, cb, rfl, HB3.out, Below.refl _ _⟩
        | some b0 =>
          go_wp2_with (at_make; refine wpList_make_full _ rfl _ _ 22 rfl wd.heap.size 9 i9 _ 1 Try.underlying22 hi9 hy0 hy1 _ _ _ _ B.length rfl rfl (by omega) (by omega) (by rw [hy2]; omega) (by unfold maxLen; omega) (Nat.le_refl _) ?_)
          intro w2 hk hg2
          have hb2 : Below wd.heap.size wd w2 := (Below.refl _ _).grown hg2 (Nat.le_refl _) (by rintro k ⟨⟩)
          have hrow : Hid (w2.heap[wd.heap.size]? = some (.cells (List.replicate B.length (.string ByteArray.empty)).toArray 9 (0, 0))) := made_row (by simpa [toList_madeCells_one] using hk)
          have hB2 : Hid (StrRow w2 (some b0) B.length B) := HB3.out.later hb2
          clear hk hg2
          go_wp2_with (refine wpList_copy_splice rfl (.tmp 50) (.tmp 51) 22 22 rfl 9 Try.underlying22 Try.size9 (some ⟨wd.heap.size, 0, none⟩) (some b0) B.length B.length B.length cb rfl rfl wd.heap.size 0 (List.replicate B.length (.string ByteArray.empty)) 9 hrow.out ((List.range B.length).map (scell B)) (by simp) (src_cells hB2.out _) (by simp) (scells_one _ _) wd.heap.size wd hb2 (Nat.le_refl _) ?_)
          intro w3 HG3 hb4
          go_wp2
          go_meet
          case rel => exact ⟨_, _, rfl, strRow_splice HG3.out rfl, hb4⟩
      case rest =>
        obtain ⟨bo', cb', rfl, hB4, hb4⟩ := hcut
        have hbw : Below w1.heap.size w1 wc := hb3.trans (hb4.mono hb3.size)
        have HA4 : Hid (StrRow wc ao' A.length A) := HA3.out.later hb4
        have HP4 : Hid (StrRow wc po P.length P) := HP3.out.later hb4
        have HB4 : Hid (StrRow wc bo' B.length B) := hB4
        clear hB4 HA3 HP3 HB3 hb3 hb4
        go_wp2_with (go_at_call 6; refine (bytes_any 0 po P.length cp 1048576 P _ (by omega) (by omega) (by omega) (by omega) HP4.out).mono ?_)
        rintro e w4 ⟨r1, rfl, hr1, rfl⟩
        by_cases c1 : 1048576 < r1
        · go_wp2
          go_ret
          exact ⟨rfl, hbw⟩
        go_wp2_with (go_at_call 6; refine (bytes_any r1 ao' A.length ca' 1048576 A _ hr1 (by omega) (by omega) (by omega) HA4.out).mono ?_)
        rintro e w5 ⟨r2, rfl, hr2, rfl⟩
        by_cases c2 : 1048576 < r2
        · go_wp2
          go_ret
          exact ⟨rfl, hbw⟩
        go_wp2_with (go_at_call 6; refine (bytes_any r2 bo' B.length cb' 1048576 B _ hr2 (by omega) (by omega) (by omega) HB4.out).mono ?_)
        rintro e w6 ⟨r3, rfl, hr3, rfl⟩
        by_cases c3 : 1048576 < r3
        · go_wp2
          go_ret
          exact ⟨rfl, hbw⟩
        have HA5 : Hid (StrRow w6 ao' A.length A) := HA4
        have HP5 : Hid (StrRow w6 po P.length P) := HP4
        have HB5 : Hid (StrRow w6 bo' B.length B) := HB4
        clear HA4 HP4 HB4
        go_wp2_with (at_make; refine wpList_make_full _ rfl _ _ 22 rfl w6.heap.size 9 i9 _ 1 Try.underlying22 hi9 hy0 hy1 _ _ _ _ (P.length + A.length) rfl rfl (by omega) (by omega) (by rw [hy2]; omega) (by unfold maxLen; omega) (Nat.le_refl _) ?_)
        intro wa0 hka hga
        have hba0 : Below w6.heap.size w6 wa0 := (Below.refl _ _).grown hga (Nat.le_refl _) (by rintro k ⟨⟩)
        simp only [toList_madeCells_one, ← part_zero (scell (P ++ A))] at hka
        clear hga
        go_wp2
        go_loopw [11] (fun i wr => ∃ (k : Nat), k ≤ P.length ∧ i = .int .i64 k ∧ wr.ownsRow w6.heap.size 9 1 (.slice (some ⟨w6.heap.size, 0, none⟩) (P.length + A.length) (P.length + A.length)) (P.length + A.length) (part (scell (P ++ A)) (.string ByteArray.empty) (P.length + A.length) k) ∧ Below w6.heap.size w6 wr) (fun i _ => P.length - (intOf i).toNat)
        case atStart => exact ⟨0, Nat.zero_le _, rfl, hka, hba0⟩
        case round =>
          obtain ⟨k, hk, rfl, hown, hbel⟩ := hrel
          clear hka hba0
          by_cases hlt : k < P.length
          · obtain ⟨_, h | ⟨pb, pf, rfl, hc⟩⟩ := StrRow.later' w6 HP5.out hbel
            · omega
            have hcell := hc k hlt
            obtain ⟨y1, q1⟩ : ∃ u, wr.cell? ⟨w6.heap.size, k, none⟩ = some u := ⟨_, (hown.cellAt k (by omega)).trans (List.getElem?_eq_getElem (by rw [part_length]; omega))⟩
            have f1 := hown.frozenAt k
            obtain ⟨o1, g1⟩ := hown.stored k (scell (P ++ A) k)
            rw [part_set] at o1
            have hb1 := hbel.grown g1 hbel.size (by rintro k ⟨⟩; exact Nat.le_refl _)
            unfold scell at o1 hb1
            rw [getD_app_left P A k hlt] at o1 hb1
            generalize P.getD k ByteArray.empty = s at hcell o1 hb1
            clear hc hown hbel g1
            go_wp2
            go_roundw
            case rel => exact ⟨k + 1, by omega, by go_num, o1, hb1⟩
            case measure => simp [intOf]; omega
          · have hkp : k = P.length := by omega
            rw [hkp] at hown
            clear hkp
            obtain ⟨wqa, rfl⟩ : ∃ wq : World, wq = wr := ⟨_, rfl⟩
            go_wp2
            go_loopw [12] (fun i wr => ∃ (k : Nat), k ≤ A.length ∧ i = .int .i64 k ∧ wr.ownsRow w6.heap.size 9 1 (.slice (some ⟨w6.heap.size, 0, none⟩) (P.length + A.length) (P.length + A.length)) (P.length + A.length) (part (scell (P ++ A)) (.string ByteArray.empty) (P.length + A.length) (P.length + k)) ∧ Below w6.heap.size w6 wr) (fun i _ => A.length - (intOf i).toNat)
            case atStart => exact ⟨0, Nat.zero_le _, rfl, hown, hbel⟩
            case round =>
              obtain ⟨j, hj, rfl, hown2, hbel2⟩ := hrel
              clear hown hbel
              by_cases hlt2 : j < A.length
              · obtain ⟨_, h | ⟨pb, pf, rfl, hc⟩⟩ := StrRow.later' w6 HA5.out hbel2
                · omega
                have hcell := hc j hlt2
                obtain ⟨y1, q1⟩ : ∃ u, wr.cell? ⟨w6.heap.size, P.length + j, none⟩ = some u := ⟨_, (hown2.cellAt (P.length + j) (by omega)).trans (List.getElem?_eq_getElem (by rw [part_length]; omega))⟩
                have f1 := hown2.frozenAt (P.length + j)
                obtain ⟨o1, g1⟩ := hown2.stored (P.length + j) (scell (P ++ A) (P.length + j))
                rw [part_set] at o1
                have hb1 := hbel2.grown g1 hbel2.size (by rintro k ⟨⟩; exact Nat.le_refl _)
                unfold scell at o1 hb1
                rw [getD_app_right P A j] at o1 hb1
                generalize A.getD j ByteArray.empty = s at hcell o1 hb1
                clear hc hown2 hbel2 g1
                go_wp2
                go_roundw
                case rel => exact ⟨j + 1, by omega, by go_num, o1, hb1⟩
                case measure => simp [intOf]; omega
              · rw [part_full _ _ _ _ (by omega)] at hown2
                have Ha : Hid (StrRow wr (some ⟨w6.heap.size, 0, none⟩) (P.length + A.length) (P ++ A)) := strRow_of hown2 (by simp)
                clear hown2
                obtain ⟨w7, rfl⟩ : ∃ w7 : World, w7 = wr := ⟨_, rfl⟩
                have HA7 : Hid (StrRow w7 ao' A.length A) := HA5.out.later hbel2
                have HP7 : Hid (StrRow w7 po P.length P) := HP5.out.later hbel2
                have HB7 : Hid (StrRow w7 bo' B.length B) := HB5.out.later hbel2
                have hbw7 : Below w1.heap.size w1 w7 := hbw.trans (hbel2.mono hbw.size)
                clear HA5 HP5 HB5 hbw hbel2
                go_wp2_with (at_make; refine wpList_make_full _ rfl _ _ 22 rfl w7.heap.size 9 i9 _ 1 Try.underlying22 hi9 hy0 hy1 _ _ _ _ (P.length + B.length) rfl rfl (by omega) (by omega) (by rw [hy2]; omega) (by unfold maxLen; omega) (Nat.le_refl _) ?_)
                intro wb0 hkb hgb
                have hbb0 : Below w7.heap.size w7 wb0 := (Below.refl _ _).grown hgb (Nat.le_refl _) (by rintro k ⟨⟩)
                simp only [toList_madeCells_one, ← part_zero (scell (P ++ B))] at hkb
                clear hgb
                go_wp2
                go_loopw [14] (fun i wr => ∃ (k : Nat), k ≤ P.length ∧ i = .int .i64 k ∧ wr.ownsRow w7.heap.size 9 1 (.slice (some ⟨w7.heap.size, 0, none⟩) (P.length + B.length) (P.length + B.length)) (P.length + B.length) (part (scell (P ++ B)) (.string ByteArray.empty) (P.length + B.length) k) ∧ Below w7.heap.size w7 wr) (fun i _ => P.length - (intOf i).toNat)
                case atStart => exact ⟨0, Nat.zero_le _, rfl, hkb, hbb0⟩
                case round =>
                  obtain ⟨k, hk, rfl, hown, hbel⟩ := hrel
                  clear hkb hbb0
                  by_cases hlt : k < P.length
                  · obtain ⟨_, h | ⟨pb, pf, rfl, hc⟩⟩ := StrRow.later' w7 HP7.out hbel
                    · omega
                    have hcell := hc k hlt
                    obtain ⟨y1, q1⟩ : ∃ u, wr.cell? ⟨w7.heap.size, k, none⟩ = some u := ⟨_, (hown.cellAt k (by omega)).trans (List.getElem?_eq_getElem (by rw [part_length]; omega))⟩
                    have f1 := hown.frozenAt k
                    obtain ⟨o1, g1⟩ := hown.stored k (scell (P ++ B) k)
                    rw [part_set] at o1
                    have hb1 := hbel.grown g1 hbel.size (by rintro k ⟨⟩; exact Nat.le_refl _)
                    unfold scell at o1 hb1
                    rw [getD_app_left P B k hlt] at o1 hb1
                    generalize P.getD k ByteArray.empty = s at hcell o1 hb1
                    clear hc hown hbel g1
                    go_wp2
                    go_roundw
                    case rel => exact ⟨k + 1, by omega, by go_num, o1, hb1⟩
                    case measure => simp [intOf]; omega
                  · have hkp : k = P.length := by omega
                    rw [hkp] at hown
                    clear hkp
                    obtain ⟨wqb, rfl⟩ : ∃ wq : World, wq = wr := ⟨_, rfl⟩
                    go_wp2
                    go_loopw [15] (fun i wr => ∃ (k : Nat), k ≤ B.length ∧ i = .int .i64 k ∧ wr.ownsRow w7.heap.size 9 1 (.slice (some ⟨w7.heap.size, 0, none⟩) (P.length + B.length) (P.length + B.length)) (P.length + B.length) (part (scell (P ++ B)) (.string ByteArray.empty) (P.length + B.length) (P.length + k)) ∧ Below w7.heap.size w7 wr) (fun i _ => B.length - (intOf i).toNat)
                    case atStart => exact ⟨0, Nat.zero_le _, rfl, hown, hbel⟩
                    case round =>
                      obtain ⟨j, hj, rfl, hown2, hbel2⟩ := hrel
                      clear hown hbel
                      by_cases hlt2 : j < B.length
                      · obtain ⟨_, h | ⟨pb, pf, rfl, hc⟩⟩ := StrRow.later' w7 HB7.out hbel2
                        · omega
                        have hcell := hc j hlt2
                        obtain ⟨y1, q1⟩ : ∃ u, wr.cell? ⟨w7.heap.size, P.length + j, none⟩ = some u := ⟨_, (hown2.cellAt (P.length + j) (by omega)).trans (List.getElem?_eq_getElem (by rw [part_length]; omega))⟩
                        have f1 := hown2.frozenAt (P.length + j)
                        obtain ⟨o1, g1⟩ := hown2.stored (P.length + j) (scell (P ++ B) (P.length + j))
                        rw [part_set] at o1
                        have hb1 := hbel2.grown g1 hbel2.size (by rintro k ⟨⟩; exact Nat.le_refl _)
                        unfold scell at o1 hb1
                        rw [getD_app_right P B j] at o1 hb1
                        generalize B.getD j ByteArray.empty = s at hcell o1 hb1
                        clear hc hown2 hbel2 g1
                        go_wp2
                        go_roundw
                        case rel => exact ⟨j + 1, by omega, by go_num, o1, hb1⟩
                        case measure => simp [intOf]; omega
                      · rw [part_full _ _ _ _ (by omega)] at hown2
                        have Hb : Hid (StrRow wr (some ⟨w7.heap.size, 0, none⟩) (P.length + B.length) (P ++ B)) := strRow_of hown2 (by simp)
                        clear hown2
                        obtain ⟨w8, rfl⟩ : ∃ w8 : World, w8 = wr := ⟨_, rfl⟩
                        have HA8 : Hid (StrRow w8 ao' A.length A) := HA7.out.later hbel2
                        have HP8 : Hid (StrRow w8 po P.length P) := HP7.out.later hbel2
                        have HB8 : Hid (StrRow w8 bo' B.length B) := HB7.out.later hbel2
                        have Ha8 : Hid (StrRow w8 (some ⟨w6.heap.size, 0, none⟩) (P.length + A.length) (P ++ A)) := Ha.out.later hbel2
                        have hbw8 : Below w1.heap.size w1 w8 := hbw7.trans (hbel2.mono hbw7.size)
                        clear HA7 HP7 HB7 Ha hbw7 hbel2
                        go_wp2_with (go_at_call 7; refine (zz_len (P ++ A) (P ++ B) (P.length + A.length) (P.length + B.length) (by simp) (by simp) _ _ _ _ _ Ha8.out Hb.out (by omega) (by omega)).mono ?_)
                        rintro e w9 ⟨E1, gk1, gl1, hS1, rfl, hk1, hl1, hb9⟩
                        have HA9 : Hid (StrRow w9 ao' A.length A) := HA8.out.later hb9
                        have HP9 : Hid (StrRow w9 po P.length P) := HP8.out.later hb9
                        have HB9 : Hid (StrRow w9 bo' B.length B) := HB8.out.later hb9
                        have hbw9 : Below w1.heap.size w1 w9 := hbw8.trans (hb9.mono hbw8.size)
                        have HS1 : Hid (Script (P ++ A) (P ++ B) E1) := hS1
                        clear HA8 HP8 HB8 Ha8 Hb hbw8 hb9 hS1
                        go_wp2_with (go_at_call 7; refine (zz_len A B A.length B.length rfl rfl _ _ _ _ _ HA9.out HB9.out (by omega) (by omega)).mono ?_)
                        rintro e w10 ⟨E2, gk2, gl2, hS2, rfl, hk2, hl2, hb10⟩
                        have hE : E1 = P.map (fun l => (32, l)) ++ E2 := script_pre HS1.out hS2
                        have hlen : E1.length = P.length + E2.length := by rw [hE]; simp
                        have hE2 := script_len hS2
                        have hk1' := own_below hk1 hb10
                        have hl1' := own_below hl1 hb10
                        have C1 : Hid (∀ j, j < E1.length → w10.cell? ⟨gk1, j, none⟩ = some (kcell E1 j)) := fun j hj => cells_of_range hk1' j hj
                        have C2 : Hid (∀ j, j < E1.length → w10.cell? ⟨gl1, j, none⟩ = some (lcell E1 j)) := fun j hj => cells_of_range hl1' j hj
                        have C3 : Hid (∀ j, j < E2.length → w10.cell? ⟨gk2, j, none⟩ = some (kcell E2 j)) := fun j hj => cells_of_range hk2 j hj
                        have C4 : Hid (∀ j, j < E2.length → w10.cell? ⟨gl2, j, none⟩ = some (lcell E2 j)) := fun j hj => cells_of_range hl2 j hj
                        have HP10 : Hid (StrRow w10 po P.length P) := HP9.out.later hb10
                        have hbw10 : Below w1.heap.size w1 w10 := hbw9.trans (hb10.mono hbw9.size)
                        rw [hlen] at C1 C2
                        rw [hlen]
                        have HE : Hid (E1 = P.map (fun l => (32, l)) ++ E2) := hE
                        clear hE hlen hk1 hl1 hk1' hl1' hk2 hl2 hb10 hbw9 HA9 HB9 HP9 HS1 hS2
                        go_wp2
                        go_loopw [20] (fun i wr => ∃ (k q : Nat), k ≤ P.length ∧ i = .int .i64 k ∧ wr = w10.drewN q) (fun i _ => P.length - (intOf i).toNat)
                        case atStart => exact ⟨0, 0, Nat.zero_le _, rfl, rfl⟩
                        case round =>
                          obtain ⟨k, q, hk, rfl, rfl⟩ := hrel
                          by_cases hlt : k < P.length
                          · obtain ⟨_, h | ⟨pb, pf, rfl, hc⟩⟩ := HP10.out
                            · omega
                            have z1 := C1.out k (by omega)
                            have z2 := C2.out k (by omega)
                            have z3 := hc k hlt
                            rw [HE.out, (keep_cells P E2 k hlt).1] at z1
                            rw [HE.out, (keep_cells P E2 k hlt).2] at z2
                            generalize P.getD k ByteArray.empty = s at z2 z3
                            have hb5 : (s.toList != s.toList) = false := by simp
                            clear hc
                            go_wp2
                            go_quiet (fail)
                            go_wp2
                            go_roundw
                            case rel => exact ⟨k + 1, _, by omega, by go_num, rfl⟩
                            case measure => simp [intOf]; omega
                          · obtain ⟨wq, hwq⟩ : ∃ wq : World, wq = w10.drewN q := ⟨_, rfl⟩
                            go_wp2
                            go_loopw [21] (fun i wr => ∃ (k q : Nat), k ≤ E2.length ∧ i = .int .i64 k ∧ wr = w10.drewN q) (fun i _ => E2.length - (intOf i).toNat)
                            case atStart => exact ⟨0, q, Nat.zero_le _, rfl, by first | rfl | exact hwq⟩
                            case round =>
                              obtain ⟨j, q2, hj, rfl, rfl⟩ := hrel
                              clear hwq
                              by_cases hlt2 : j < E2.length
                              · have z1 := C1.out (P.length + j) (by omega)
                                have z2 := C2.out (P.length + j) (by omega)
                                have z3 := C3.out j hlt2
                                have z4 := C4.out j hlt2
                                rw [HE.out, (tail_cells P E2 j).1] at z1
                                rw [HE.out, (tail_cells P E2 j).2] at z2
                                unfold kcell at z1 z3
                                unfold lcell at z2 z4
                                generalize (E2.getD j (0, ByteArray.empty)).1 = c at z1 z3
                                generalize (E2.getD j (0, ByteArray.empty)).2 = s at z2 z4
                                have hb5 : (s.toList != s.toList) = false := by simp
                                have hb6 : (c != c) = false := by simp
                                go_wp2
                                go_quiet (fail)
                                go_wp2
                                go_roundw
                                case rel => exact ⟨j + 1, _, by omega, by go_num, rfl⟩
                                case measure => simp [intOf]; omega
                              · go_wp2
                                go_ret
                                exact ⟨rfl, hbw10.trans ⟨rfl, rfl, rfl, Nat.le_refl _, fun _ _ => rfl⟩⟩
end Go.Proofs.Qxb6618347a
