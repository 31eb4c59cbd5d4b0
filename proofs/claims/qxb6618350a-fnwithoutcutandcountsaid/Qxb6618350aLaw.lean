/-
  Walk of FnWithoutCutAndCount (3).
-/
import Derived.Test.Qxb6618350aZZ
import Derived.Test.Qxb6618350aTot
import Derived.Deep.DeepCutAuto
namespace Go.Proofs.Qxb6618350a
open Go.RowKit

theorem zip_parts : ∀ R : List (Int × Int), (R.map (·.1)).zip (R.map (·.2)) = R
  | [] => rfl
  | (a, b) :: R => by simp only [List.map_cons, List.zip_cons_cons, zip_parts R]
theorem fst_zip (C N : List Int) (h : C.length = N.length) : (C.zip N).map (·.1) = C := List.map_fst_zip (by omega)
theorem snd_zip (C N : List Int) (h : C.length = N.length) : (C.zip N).map (·.2) = N := List.map_snd_zip (by omega)
theorem zip_app (AC AN BC BN : List Int) (h : AC.length = AN.length) : (AC ++ BC).zip (AN ++ BN) = AC.zip AN ++ BC.zip BN := List.zip_append h

theorem law_true {AC AN BC BN : List Int} {c : Int} (h1 : AC.length = AN.length) (h2 : BC.length = BN.length) (h : hasB AC c = true) :
    (wo c ((AC ++ BC).zip (AN ++ BN))).map (·.1) = (wo c (AC.zip AN)).map (·.1) ++ BC ∧ (wo c ((AC ++ BC).zip (AN ++ BN))).map (·.2) = (wo c (AC.zip AN)).map (·.2) ++ BN ∧ (wo c ((AC ++ BC).zip (AN ++ BN))).length = (wo c (AC.zip AN)).length + BC.length := by
  rw [zip_app _ _ _ _ h1, wo_append, fst_zip _ _ h1, h]
  simp only [if_true, List.map_append, fst_zip _ _ h2, snd_zip _ _ h2, List.length_append, true_and]
  rw [List.length_zip]; omega
theorem law_false {AC AN BC BN : List Int} {c : Int} (h1 : AC.length = AN.length) (_h2 : BC.length = BN.length) (h : hasB AC c = false) :
    (wo c ((AC ++ BC).zip (AN ++ BN))).map (·.1) = AC ++ (wo c (BC.zip BN)).map (·.1) ∧ (wo c ((AC ++ BC).zip (AN ++ BN))).map (·.2) = AN ++ (wo c (BC.zip BN)).map (·.2) ∧ (wo c ((AC ++ BC).zip (AN ++ BN))).length = AC.length + (wo c (BC.zip BN)).length := by
  rw [zip_app _ _ _ _ h1, wo_append, fst_zip _ _ h1, h]
  simp only [Bool.false_eq_true, if_false, List.map_append, fst_zip _ _ h1, snd_zip _ _ h1, List.length_append, true_and]
  rw [List.length_zip]; omega

theorem pos_of {C N : List Int} (h : C.length = N.length) (hp : posB N = true) (hu : ∀ x ∈ N, x ≤ 9223372036854775807) : Pos (C.zip N) := by
  intro x hx
  have hm : x.2 ∈ N := by
    have : x.2 ∈ (C.zip N).map (·.2) := List.mem_map.2 ⟨x, hx, rfl⟩
    rwa [snd_zip _ _ h] at this
  unfold posB at hp
  rw [List.all_eq_true] at hp
  exact ⟨by simpa using hp _ hm, hu _ hm⟩
theorem posB_of {R : List (Int × Int)} (h : Pos R) : posB (R.map (·.2)) = true := by
  unfold posB
  rw [List.all_eq_true]
  intro x hx
  obtain ⟨y, hy, rfl⟩ := List.mem_map.1 hx
  simpa using (h y hy).1

set_option maxHeartbeats 6000000 in
set_option maxRecDepth 100000 in
theorem law (AC AN BC BN : List Int) (n0 n1 n2 n3 : Nat) (a0 a1 a2 a3 : Option Addr) (c0 c1 c2 c3 : Nat) (c : Int) (w : World) (h0 : IntRow w a0 n0 AC) (h1 : IntRow w a1 n1 AN) (h2 : IntRow w a2 n2 BC) (h3 : IntRow w a3 n3 BN)
    (hu : ∀ x ∈ AN ++ BN, x ≤ 9223372036854775807) :
    Calls Try.prog 3 #[.slice a0 n0 c0, .slice a1 n1 c1, .slice a2 n2 c2, .slice a3 n3 c3, .int .i64 c] w fun e w' => e = .returned (.bool true) ∧ Below w.heap.size w w' := by
  obtain ⟨i3, hi3, hy0, hy1, hy2⟩ := info_parts Try.info3
  have R0 : Hid (IntRow w a0 n0 AC) := h0
  have R1 : Hid (IntRow w a1 n1 AN) := h1
  have R2 : Hid (IntRow w a2 n2 BC) := h2
  have R3 : Hid (IntRow w a3 n3 BN) := h3
  have HU : Hid (∀ x ∈ AN ++ BN, x ≤ 9223372036854775807) := hu
  clear h0 h1 h2 h3 hu
  go_enter Try.func3, Try.ntmps3
  go_wp2_with (go_at_call 4; refine (guard_any a0 a1 a2 a3 n0 c0 n1 c1 n2 c2 n3 c3 c _).mono ?_)
  rintro e w1 ⟨r, rfl, hr, rfl⟩
  rcases hr with rfl | rfl
  case inr =>
    go_wp2
    go_ret
    exact ⟨rfl, Below.refl _ _⟩
  by_cases l0 : 32768 < n0
  · go_wp2
    go_ret
    exact ⟨rfl, Below.refl _ _⟩
  by_cases l1 : 32768 < n1
  · go_wp2
    go_ret
    exact ⟨rfl, Below.refl _ _⟩
  by_cases l2 : 32768 < n2
  · go_wp2
    go_ret
    exact ⟨rfl, Below.refl _ _⟩
  by_cases l3 : 32768 < n3
  · go_wp2
    go_ret
    exact ⟨rfl, Below.refl _ _⟩
  by_cases e1 : n0 = n1
  case neg =>
    have hb1 : ((n0 : Int) != (n1 : Int)) = true := by simp; omega
    go_wp2
    go_ret
    exact ⟨rfl, Below.refl _ _⟩
  by_cases e2 : n2 = n3
  case neg =>
    have hb1 : ((n0 : Int) != (n1 : Int)) = false := by simp; omega
    have hb2 : ((n2 : Int) != (n3 : Int)) = true := by simp; omega
    clear e1
    go_wp2
    go_ret
    exact ⟨rfl, Below.refl _ _⟩
  subst e1
  subst e2
  have lA : Hid (AC.length = AN.length) := R0.out.1.trans R1.out.1.symm
  have lB : Hid (BC.length = BN.length) := R2.out.1.trans R3.out.1.symm
  obtain ⟨wA, hwA⟩ : ∃ wA : World, wA = w1 := ⟨_, rfl⟩
  have hbw : Below w1.heap.size w1 wA := by rw [hwA]; exact Below.refl _ _
  rw [← hwA] at R0 R1 R2 R3
  rw [← hwA]
  clear hwA
  go_upto_if 60 with fail
  go_cut [0, 11] (fun s1 _ wx => ∃ ao' ca', s1 = .slice ao' n0 ca' ∧ IntRow wx ao' n0 AC ∧ Below wA.heap.size wA wx)
  case first =>
    as_aux_lemma =>
      cases a0 with
      | none =>
        go_wp2
        go_meet
        case rel => exact ⟨none, c0, rfl, R0.out, Below.refl _ _⟩
      | some p0 =>
        go_wp2_with (at_make; refine wpList_make_full _ rfl _ _ 22 rfl wA.heap.size 3 i3 _ 1 Try.underlying22 hi3 hy0 hy1 _ _ _ _ n0 rfl rfl (by omega) (by omega) (by rw [hy2]; omega) (by unfold maxLen; omega) (Nat.le_refl _) ?_)
        intro w2 hk hg2
        have hb2 : Below wA.heap.size wA w2 := (Below.refl _ _).grown hg2 (Nat.le_refl _) (by rintro k ⟨⟩)
        have hrow : Hid (w2.heap[wA.heap.size]? = some (.cells (List.replicate n0 (.int .i64 0)).toArray 3 (0, 0))) := made_row (by simpa [toList_madeCells_one] using hk)
        have hA2 : Hid (IntRow w2 (some p0) n0 AC) := R0.out.later hb2
        clear hk hg2
        go_wp2_with (refine wpList_copy_splice rfl (.tmp 64) (.tmp 65) 22 22 rfl 3 Try.underlying22 Try.size3 (some ⟨wA.heap.size, 0, none⟩) (some p0) n0 n0 n0 c0 rfl rfl wA.heap.size 0 (List.replicate n0 (.int .i64 0)) 3 hrow.out ((List.range n0).map (icell AC)) (by simp) (src_cells hA2.out _) (by simp) (icells_one _ _) wA.heap.size wA hb2 (Nat.le_refl _) ?_)
        intro w3 HG3 hb3
        go_wp2
        go_meet
        case rel => exact ⟨_, _, rfl, intRow_splice HG3.out hA2.out.1, hb3⟩
  case rest =>
    as_aux_lemma =>
      obtain ⟨b0, d0, rfl, hrow, hbc⟩ := hcut
      obtain ⟨wB, rfl⟩ : ∃ wx : World, wx = wc := ⟨_, rfl⟩
      have S0 : Hid (IntRow wB b0 n0 AC) := hrow
      have S1 : Hid (IntRow wB a1 n0 AN) := R1.out.later hbc
      have S2 : Hid (IntRow wB a2 n2 BC) := R2.out.later hbc
      have S3 : Hid (IntRow wB a3 n2 BN) := R3.out.later hbc
      have hbw' : Below w1.heap.size w1 wB := hbw.trans (hbc.mono hbw.size)
      clear R0 R1 R2 R3 hrow hbc hbw
      have R0 := S0
      have R1 := S1
      have R2 := S2
      have R3 := S3
      have hbw := hbw'
      clear S0 S1 S2 S3 hbw'
      go_upto_if 69 with fail
      go_cut [1, 12] (fun s1 _ wx => ∃ ao' ca', s1 = .slice ao' n0 ca' ∧ IntRow wx ao' n0 AN ∧ Below wB.heap.size wB wx)
      case first =>
        as_aux_lemma =>
          cases a1 with
          | none =>
            go_wp2
            go_meet
            case rel => exact ⟨none, c1, rfl, R1.out, Below.refl _ _⟩
          | some p0 =>
            go_wp2_with (at_make; refine wpList_make_full _ rfl _ _ 22 rfl wB.heap.size 3 i3 _ 1 Try.underlying22 hi3 hy0 hy1 _ _ _ _ n0 rfl rfl (by omega) (by omega) (by rw [hy2]; omega) (by unfold maxLen; omega) (Nat.le_refl _) ?_)
            intro w2 hk hg2
            have hb2 : Below wB.heap.size wB w2 := (Below.refl _ _).grown hg2 (Nat.le_refl _) (by rintro k ⟨⟩)
            have hrow : Hid (w2.heap[wB.heap.size]? = some (.cells (List.replicate n0 (.int .i64 0)).toArray 3 (0, 0))) := made_row (by simpa [toList_madeCells_one] using hk)
            have hA2 : Hid (IntRow w2 (some p0) n0 AN) := R1.out.later hb2
            clear hk hg2
            go_wp2_with (refine wpList_copy_splice rfl (.tmp 73) (.tmp 74) 22 22 rfl 3 Try.underlying22 Try.size3 (some ⟨wB.heap.size, 0, none⟩) (some p0) n0 n0 n0 c1 rfl rfl wB.heap.size 0 (List.replicate n0 (.int .i64 0)) 3 hrow.out ((List.range n0).map (icell AN)) (by simp) (src_cells hA2.out _) (by simp) (icells_one _ _) wB.heap.size wB hb2 (Nat.le_refl _) ?_)
            intro w3 HG3 hb3
            go_wp2
            go_meet
            case rel => exact ⟨_, _, rfl, intRow_splice HG3.out hA2.out.1, hb3⟩
      case rest =>
        as_aux_lemma =>
          obtain ⟨b1, d1, rfl, hrow, hbc⟩ := hcut
          obtain ⟨wC, rfl⟩ : ∃ wx : World, wx = wc := ⟨_, rfl⟩
          have S0 : Hid (IntRow wC b0 n0 AC) := R0.out.later hbc
          have S1 : Hid (IntRow wC b1 n0 AN) := hrow
          have S2 : Hid (IntRow wC a2 n2 BC) := R2.out.later hbc
          have S3 : Hid (IntRow wC a3 n2 BN) := R3.out.later hbc
          have hbw' : Below w1.heap.size w1 wC := hbw.trans (hbc.mono hbw.size)
          clear R0 R1 R2 R3 hrow hbc hbw
          have R0 := S0
          have R1 := S1
          have R2 := S2
          have R3 := S3
          have hbw := hbw'
          clear S0 S1 S2 S3 hbw'
          go_upto_if 78 with fail
          go_cut [2, 13] (fun s1 _ wx => ∃ ao' ca', s1 = .slice ao' n2 ca' ∧ IntRow wx ao' n2 BC ∧ Below wC.heap.size wC wx)
          case first =>
            as_aux_lemma =>
              cases a2 with
              | none =>
                go_wp2
                go_meet
                case rel => exact ⟨none, c2, rfl, R2.out, Below.refl _ _⟩
              | some p0 =>
                go_wp2_with (at_make; refine wpList_make_full _ rfl _ _ 22 rfl wC.heap.size 3 i3 _ 1 Try.underlying22 hi3 hy0 hy1 _ _ _ _ n2 rfl rfl (by omega) (by omega) (by rw [hy2]; omega) (by unfold maxLen; omega) (Nat.le_refl _) ?_)
                intro w2 hk hg2
                have hb2 : Below wC.heap.size wC w2 := (Below.refl _ _).grown hg2 (Nat.le_refl _) (by rintro k ⟨⟩)
                have hrow : Hid (w2.heap[wC.heap.size]? = some (.cells (List.replicate n2 (.int .i64 0)).toArray 3 (0, 0))) := made_row (by simpa [toList_madeCells_one] using hk)
                have hA2 : Hid (IntRow w2 (some p0) n2 BC) := R2.out.later hb2
                clear hk hg2
                go_wp2_with (refine wpList_copy_splice rfl (.tmp 82) (.tmp 83) 22 22 rfl 3 Try.underlying22 Try.size3 (some ⟨wC.heap.size, 0, none⟩) (some p0) n2 n2 n2 c2 rfl rfl wC.heap.size 0 (List.replicate n2 (.int .i64 0)) 3 hrow.out ((List.range n2).map (icell BC)) (by simp) (src_cells hA2.out _) (by simp) (icells_one _ _) wC.heap.size wC hb2 (Nat.le_refl _) ?_)
                intro w3 HG3 hb3
                go_wp2
                go_meet
                case rel => exact ⟨_, _, rfl, intRow_splice HG3.out hA2.out.1, hb3⟩
          case rest =>
            as_aux_lemma =>
              obtain ⟨b2, d2, rfl, hrow, hbc⟩ := hcut
              obtain ⟨wD, rfl⟩ : ∃ wx : World, wx = wc := ⟨_, rfl⟩
              have S0 : Hid (IntRow wD b0 n0 AC) := R0.out.later hbc
              have S1 : Hid (IntRow wD b1 n0 AN) := R1.out.later hbc
              have S2 : Hid (IntRow wD b2 n2 BC) := hrow
              have S3 : Hid (IntRow wD a3 n2 BN) := R3.out.later hbc
              have hbw' : Below w1.heap.size w1 wD := hbw.trans (hbc.mono hbw.size)
              clear R0 R1 R2 R3 hrow hbc hbw
              have R0 := S0
              have R1 := S1
              have R2 := S2
              have R3 := S3
              have hbw := hbw'
              clear S0 S1 S2 S3 hbw'
              go_upto_if 87 with fail
              go_cut [3, 14] (fun s1 _ wx => ∃ ao' ca', s1 = .slice ao' n2 ca' ∧ IntRow wx ao' n2 BN ∧ Below wD.heap.size wD wx)
              case first =>
                as_aux_lemma =>
                  cases a3 with
                  | none =>
                    go_wp2
                    go_meet
                    case rel => exact ⟨none, c3, rfl, R3.out, Below.refl _ _⟩
                  | some p0 =>
                    go_wp2_with (at_make; refine wpList_make_full _ rfl _ _ 22 rfl wD.heap.size 3 i3 _ 1 Try.underlying22 hi3 hy0 hy1 _ _ _ _ n2 rfl rfl (by omega) (by omega) (by rw [hy2]; omega) (by unfold maxLen; omega) (Nat.le_refl _) ?_)
                    intro w2 hk hg2
                    have hb2 : Below wD.heap.size wD w2 := (Below.refl _ _).grown hg2 (Nat.le_refl _) (by rintro k ⟨⟩)
                    have hrow : Hid (w2.heap[wD.heap.size]? = some (.cells (List.replicate n2 (.int .i64 0)).toArray 3 (0, 0))) := made_row (by simpa [toList_madeCells_one] using hk)
                    have hA2 : Hid (IntRow w2 (some p0) n2 BN) := R3.out.later hb2
                    clear hk hg2
                    go_wp2_with (refine wpList_copy_splice rfl (.tmp 91) (.tmp 92) 22 22 rfl 3 Try.underlying22 Try.size3 (some ⟨wD.heap.size, 0, none⟩) (some p0) n2 n2 n2 c3 rfl rfl wD.heap.size 0 (List.replicate n2 (.int .i64 0)) 3 hrow.out ((List.range n2).map (icell BN)) (by simp) (src_cells hA2.out _) (by simp) (icells_one _ _) wD.heap.size wD hb2 (Nat.le_refl _) ?_)
                    intro w3 HG3 hb3
                    go_wp2
                    go_meet
                    case rel => exact ⟨_, _, rfl, intRow_splice HG3.out hA2.out.1, hb3⟩
              case rest =>
                as_aux_lemma =>
                  obtain ⟨b3, d3, rfl, hrow, hbc⟩ := hcut
                  obtain ⟨wE, rfl⟩ : ∃ wx : World, wx = wc := ⟨_, rfl⟩
                  have S0 : Hid (IntRow wE b0 n0 AC) := R0.out.later hbc
                  have S1 : Hid (IntRow wE b1 n0 AN) := R1.out.later hbc
                  have S2 : Hid (IntRow wE b2 n2 BC) := R2.out.later hbc
                  have S3 : Hid (IntRow wE b3 n2 BN) := hrow
                  have hbw' : Below w1.heap.size w1 wE := hbw.trans (hbc.mono hbw.size)
                  clear R0 R1 R2 R3 hrow hbc hbw
                  have R0 := S0
                  have R1 := S1
                  have R2 := S2
                  have R3 := S3
                  have hbw := hbw'
                  clear S0 S1 S2 S3 hbw'
                  have hn0 := R0.out.1
                  clear hn0
                  go_wp2_with (go_at_call 5; refine (join_any AC BC n0 n2 b0 b2 d0 d2 _ R0.out R2.out (by omega) (by omega)).mono ?_)
                  first | rintro e w2 g1 rfl J1 hb2 | rintro e w2 ⟨g1, rfl, J1, hb2⟩
                  have K0 : Hid (IntRow w2 b0 n0 AC) := R0.out.later hb2
                  have K1 : Hid (IntRow w2 b1 n0 AN) := R1.out.later hb2
                  have K2 : Hid (IntRow w2 b2 n2 BC) := R2.out.later hb2
                  have K3 : Hid (IntRow w2 b3 n2 BN) := R3.out.later hb2
                  have K4 : Hid (IntRow w2 (some ⟨g1, 0, none⟩) (n0 + n2) (AC ++ BC)) := J1
                  have hbw2 : Below w1.heap.size w1 w2 := hbw.trans (hb2.mono hbw.size)
                  clear R0 R1 R2 R3 J1 hb2 hbw
                  go_wp2_with (go_at_call 5; refine (join_any AN BN n0 n2 b1 b3 d1 d3 _ K1.out K3.out (by omega) (by omega)).mono ?_)
                  first | rintro e w3 g2 rfl J1 hb3 | rintro e w3 ⟨g2, rfl, J1, hb3⟩
                  have R0 : Hid (IntRow w3 b0 n0 AC) := K0.out.later hb3
                  have R1 : Hid (IntRow w3 b1 n0 AN) := K1.out.later hb3
                  have R2 : Hid (IntRow w3 b2 n2 BC) := K2.out.later hb3
                  have R3 : Hid (IntRow w3 b3 n2 BN) := K3.out.later hb3
                  have R4 : Hid (IntRow w3 (some ⟨g1, 0, none⟩) (n0 + n2) (AC ++ BC)) := K4.out.later hb3
                  have R5 : Hid (IntRow w3 (some ⟨g2, 0, none⟩) (n0 + n2) (AN ++ BN)) := J1
                  have hbw3 : Below w1.heap.size w1 w3 := hbw2.trans (hb3.mono hbw2.size)
                  clear K0 K1 K2 K3 K4 J1 hb3 hbw2
                  go_wp2_with (go_at_call 6; refine (zz_any (AC ++ BC) (AN ++ BN) (n0 + n2) _ _ _ _ c _ R4.out R5.out (by omega)).mono ?_)
                  first | rintro e w4 g3 g4 rfl J1 J2 hb4 | rintro e w4 ⟨g3, g4, rfl, J1, J2, hb4⟩
                  have K0 : Hid (IntRow w4 b0 n0 AC) := R0.out.later hb4
                  have K1 : Hid (IntRow w4 b1 n0 AN) := R1.out.later hb4
                  have K2 : Hid (IntRow w4 b2 n2 BC) := R2.out.later hb4
                  have K3 : Hid (IntRow w4 b3 n2 BN) := R3.out.later hb4
                  have K4 : Hid (IntRow w4 (some ⟨g1, 0, none⟩) (n0 + n2) (AC ++ BC)) := R4.out.later hb4
                  have K5 : Hid (IntRow w4 (some ⟨g2, 0, none⟩) (n0 + n2) (AN ++ BN)) := R5.out.later hb4
                  have hlen4 : (wo c ((AC ++ BC).zip (AN ++ BN))).length ≤ n0 + n2 := by
                    have h1 := wo_length c ((AC ++ BC).zip (AN ++ BN))
                    have h2 := K4.out.1
                    have h3 : ((AC ++ BC).zip (AN ++ BN)).length ≤ n0 + n2 := by rw [List.length_zip, h2]; omega
                    omega
                  generalize hO : wo c ((AC ++ BC).zip (AN ++ BN)) = O at J1 J2 hlen4 ⊢
                  have HO : Hid (wo c ((AC ++ BC).zip (AN ++ BN)) = O) := hO
                  have K6 : Hid (IntRow w4 (some ⟨g3, 0, none⟩) O.length (O.map (·.1))) := J1
                  have K7 : Hid (IntRow w4 (some ⟨g4, 0, none⟩) O.length (O.map (·.2))) := J2
                  have hbw4 : Below w1.heap.size w1 w4 := hbw3.trans (hb4.mono hbw3.size)
                  clear R0 R1 R2 R3 R4 R5 J1 J2 hb4 hbw3 hO
                  go_wp2_with (go_at_call 7; refine (has_any b0 n0 d0 AC c _ K0.out (by omega)).mono ?_)
                  rintro e w4' ⟨rfl, hw4⟩
                  subst hw4
                  go_upto_if 110 with fail
                  go_cut [19, 20] (fun s19 s20 wx => ∃ g5 g6 : Nat, s19 = .slice (some ⟨g5, 0, none⟩) O.length O.length ∧ s20 = .slice (some ⟨g6, 0, none⟩) O.length O.length ∧ IntRow wx (some ⟨g5, 0, none⟩) O.length (O.map (·.1)) ∧ IntRow wx (some ⟨g6, 0, none⟩) O.length (O.map (·.2)) ∧ Below w4'.heap.size w4' wx)
                  case first =>
                    as_aux_lemma =>
                      cases hh : hasB AC c with
                      | true =>
                        obtain ⟨q1, q2, q3⟩ := law_true lA.out lB.out hh
                        rw [HO.out] at q1 q2 q3
                        have Q1 : Hid (O.map (·.1) = (wo c (AC.zip AN)).map (·.1) ++ BC) := q1
                        have Q2 : Hid (O.map (·.2) = (wo c (AC.zip AN)).map (·.2) ++ BN) := q2
                        have Q3 : Hid (O.length = (wo c (AC.zip AN)).length + n2) := q3.trans (by rw [K2.out.1])
                        have q4 : (wo c (AC.zip AN)).length ≤ 32768 := by have := Q3.out; have := wo_length c (AC.zip AN); have h3 : (AC.zip AN).length ≤ n0 := (by rw [List.length_zip, K0.out.1]; omega); omega
                        clear q1 q2 q3 hh
                        go_wp2_with (go_at_call 6; refine (zz_any AC AN n0 _ _ _ _ c _ K0.out K1.out (by omega)).mono ?_)
                        first | rintro e w5 g5 g6 rfl J1 J2 hb5 | rintro e w5 ⟨g5, g6, rfl, J1, J2, hb5⟩
                        generalize wo c (AC.zip AN) = Z at J1 J2 Q1 Q2 Q3 q4 ⊢
                        have M2 : Hid (IntRow w5 b2 n2 BC) := K2.out.later hb5
                        have M3 : Hid (IntRow w5 b3 n2 BN) := K3.out.later hb5
                        have M6 : Hid (IntRow w5 (some ⟨g5, 0, none⟩) Z.length (Z.map (·.1))) := J1
                        have M7 : Hid (IntRow w5 (some ⟨g6, 0, none⟩) Z.length (Z.map (·.2))) := J2
                        clear J1 J2
                        go_wp2_with (go_at_call 5; refine (join_any (Z.map (·.1)) BC Z.length n2 _ _ _ _ _ M6.out M2.out (by omega) (by omega)).mono ?_)
                        first | rintro e w6 g7 rfl J1 hb6 | rintro e w6 ⟨g7, rfl, J1, hb6⟩
                        have N3 : Hid (IntRow w6 b3 n2 BN) := M3.out.later hb6
                        have N7 : Hid (IntRow w6 (some ⟨g6, 0, none⟩) Z.length (Z.map (·.2))) := M7.out.later hb6
                        have N8 : Hid (IntRow w6 (some ⟨g7, 0, none⟩) (Z.length + n2) (Z.map (·.1) ++ BC)) := J1
                        have hb46 : Below w4'.heap.size w4' w6 := hb5.trans (hb6.mono hb5.size)
                        clear J1 M2 M3 M6 M7 hb5 hb6
                        go_wp2_with (go_at_call 5; refine (join_any (Z.map (·.2)) BN Z.length n2 _ _ _ _ _ N7.out N3.out (by omega) (by omega)).mono ?_)
                        first | rintro e w7 g8 rfl J1 hb7 | rintro e w7 ⟨g8, rfl, J1, hb7⟩
                        have N9 : Hid (IntRow w7 (some ⟨g8, 0, none⟩) (Z.length + n2) (Z.map (·.2) ++ BN)) := J1
                        have N8' : Hid (IntRow w7 (some ⟨g7, 0, none⟩) (Z.length + n2) (Z.map (·.1) ++ BC)) := N8.out.later hb7
                        have hb47 : Below w4'.heap.size w4' w7 := hb46.trans (hb7.mono hb46.size)
                        clear J1 N3 N7 N8 hb46 hb7
                        go_wp2
                        go_meet
                        case rel => exact ⟨g7, g8, by rw [Q3.out], by rw [Q3.out], by rw [Q3.out, Q1.out]; exact N8'.out, by rw [Q3.out, Q2.out]; exact N9.out, hb47⟩
                      | false =>
                        obtain ⟨q1, q2, q3⟩ := law_false lA.out lB.out hh
                        rw [HO.out] at q1 q2 q3
                        have Q1 : Hid (O.map (·.1) = AC ++ (wo c (BC.zip BN)).map (·.1)) := q1
                        have Q2 : Hid (O.map (·.2) = AN ++ (wo c (BC.zip BN)).map (·.2)) := q2
                        have Q3 : Hid (O.length = n0 + (wo c (BC.zip BN)).length) := q3.trans (by rw [K0.out.1])
                        have q4 : (wo c (BC.zip BN)).length ≤ 32768 := by have := wo_length c (BC.zip BN); have h3 : (BC.zip BN).length ≤ n2 := (by rw [List.length_zip, K2.out.1]; omega); omega
                        clear q1 q2 q3 hh
                        go_wp2_with (go_at_call 6; refine (zz_any BC BN n2 _ _ _ _ c _ K2.out K3.out (by omega)).mono ?_)
                        first | rintro e w5 g5 g6 rfl J1 J2 hb5 | rintro e w5 ⟨g5, g6, rfl, J1, J2, hb5⟩
                        generalize wo c (BC.zip BN) = Z at J1 J2 Q1 Q2 Q3 q4 ⊢
                        have M2 : Hid (IntRow w5 b0 n0 AC) := K0.out.later hb5
                        have M3 : Hid (IntRow w5 b1 n0 AN) := K1.out.later hb5
                        have M6 : Hid (IntRow w5 (some ⟨g5, 0, none⟩) Z.length (Z.map (·.1))) := J1
                        have M7 : Hid (IntRow w5 (some ⟨g6, 0, none⟩) Z.length (Z.map (·.2))) := J2
                        clear J1 J2
                        go_wp2_with (go_at_call 5; refine (join_any AC (Z.map (·.1)) n0 Z.length _ _ _ _ _ M2.out M6.out (by omega) (by omega)).mono ?_)
                        first | rintro e w6 g7 rfl J1 hb6 | rintro e w6 ⟨g7, rfl, J1, hb6⟩
                        have N3 : Hid (IntRow w6 b1 n0 AN) := M3.out.later hb6
                        have N7 : Hid (IntRow w6 (some ⟨g6, 0, none⟩) Z.length (Z.map (·.2))) := M7.out.later hb6
                        have N8 : Hid (IntRow w6 (some ⟨g7, 0, none⟩) (n0 + Z.length) (AC ++ Z.map (·.1))) := J1
                        have hb46 : Below w4'.heap.size w4' w6 := hb5.trans (hb6.mono hb5.size)
                        clear J1 M2 M3 M6 M7 hb5 hb6
                        go_wp2_with (go_at_call 5; refine (join_any AN (Z.map (·.2)) n0 Z.length _ _ _ _ _ N3.out N7.out (by omega) (by omega)).mono ?_)
                        first | rintro e w7 g8 rfl J1 hb7 | rintro e w7 ⟨g8, rfl, J1, hb7⟩
                        have N9 : Hid (IntRow w7 (some ⟨g8, 0, none⟩) (n0 + Z.length) (AN ++ Z.map (·.2))) := J1
                        have N8' : Hid (IntRow w7 (some ⟨g7, 0, none⟩) (n0 + Z.length) (AC ++ Z.map (·.1))) := N8.out.later hb7
                        have hb47 : Below w4'.heap.size w4' w7 := hb46.trans (hb7.mono hb46.size)
                        clear J1 N3 N7 N8 hb46 hb7
                        go_wp2
                        go_meet
                        case rel => exact ⟨g7, g8, by rw [Q3.out], by rw [Q3.out], by rw [Q3.out, Q1.out]; exact N8'.out, by rw [Q3.out, Q2.out]; exact N9.out, hb47⟩
                  case rest =>
                    as_aux_lemma =>
                      obtain ⟨g5, g6, rfl, rfl, J5, J6, hb8⟩ := hcut
                      obtain ⟨w8, rfl⟩ : ∃ wx : World, wx = wc := ⟨_, rfl⟩
                      have L4 : Hid (IntRow w8 (some ⟨g1, 0, none⟩) (n0 + n2) (AC ++ BC)) := K4.out.later hb8
                      have L5 : Hid (IntRow w8 (some ⟨g2, 0, none⟩) (n0 + n2) (AN ++ BN)) := K5.out.later hb8
                      have L6 : Hid (IntRow w8 (some ⟨g3, 0, none⟩) O.length (O.map (·.1))) := K6.out.later hb8
                      have L7 : Hid (IntRow w8 (some ⟨g4, 0, none⟩) O.length (O.map (·.2))) := K7.out.later hb8
                      have L8 : Hid (IntRow w8 (some ⟨g5, 0, none⟩) O.length (O.map (·.1))) := J5
                      have L9 : Hid (IntRow w8 (some ⟨g6, 0, none⟩) O.length (O.map (·.2))) := J6
                      have hbw8 : Below w1.heap.size w1 w8 := hbw4.trans (hb8.mono hbw4.size)
                      clear K0 K1 K2 K3 K4 K5 K6 K7 J5 J6 hb8 hbw4
                      go_wp2_with (go_at_call 8; refine (same_any _ _ O.length _ _ (O.map (·.1)) _ L6.out L8.out (by omega)).mono ?_)
                      rintro e w9 ⟨rfl, qa, hq⟩
                      have hbq : Below w8.heap.size w8 w9 := by rw [hq]; exact below_drewN' (Below.refl _ _) qa
                      have T7 : Hid (IntRow w9 (some ⟨g4, 0, none⟩) O.length (O.map (·.2))) := L7.out.later hbq
                      have T9 : Hid (IntRow w9 (some ⟨g6, 0, none⟩) O.length (O.map (·.2))) := L9.out.later hbq
                      clear hq
                      go_wp2_with (go_at_call 8; refine (same_any _ _ O.length _ _ (O.map (·.2)) _ T7.out T9.out (by omega)).mono ?_)
                      rintro e w10 ⟨rfl, qb, hq⟩
                      have hbq2 : Below w8.heap.size w8 w10 := by rw [hq]; exact below_drewN' hbq qb
                      have P4 : Hid (IntRow w10 (some ⟨g1, 0, none⟩) (n0 + n2) (AC ++ BC)) := L4.out.later hbq2
                      have P5 : Hid (IntRow w10 (some ⟨g2, 0, none⟩) (n0 + n2) (AN ++ BN)) := L5.out.later hbq2
                      have P6 : Hid (IntRow w10 (some ⟨g3, 0, none⟩) O.length (O.map (·.1))) := L6.out.later hbq2
                      have P7 : Hid (IntRow w10 (some ⟨g4, 0, none⟩) O.length (O.map (·.2))) := L7.out.later hbq2
                      have hbw10 : Below w1.heap.size w1 w10 := hbw8.trans (hbq2.mono hbw8.size)
                      clear hq hbq hbq2 L4 L5 L6 L7 L8 L9 T7 T9 hbw8
                      go_wp2_with (go_at_call 9; refine (pos_any _ (n0 + n2) _ (AN ++ BN) _ P5.out (by omega)).mono ?_)
                      rintro e w11 ⟨rfl, hw⟩
                      subst hw
                      cases hpos : posB (AN ++ BN) with
                      | false =>
                        go_wp2
                        go_ret
                        exact ⟨rfl, hbw10⟩
                      | true =>
                        have hcl : (AC ++ BC).length = (AN ++ BN).length := by rw [List.length_append, List.length_append, lA.out, lB.out]
                        have hP := pos_of hcl hpos HU.out
                        have hPO : Pos O := by rw [← HO.out]; exact wo_pos c _ hP
                        have hfst : ((AC ++ BC).zip (AN ++ BN)).map (·.1) = AC ++ BC := fst_zip _ _ hcl
                        have HPO : Hid (posB (O.map (·.2)) = true) := posB_of hPO
                        have HLEN : Hid (O.length = n0 + n2 ∨ (hasB (AC ++ BC) c = true ∧ O.length + 1 = n0 + n2)) := by
                          have h1 := wo_length c ((AC ++ BC).zip (AN ++ BN))
                          rw [hfst, HO.out] at h1
                          have h2 : ((AC ++ BC).zip (AN ++ BN)).length = n0 + n2 := by rw [List.length_zip, ← hcl, P4.out.1, Nat.min_self]
                          rw [h2] at h1
                          exact h1
                        have HTOT : Hid (∀ k, tot k ((O.map (·.1)).zip (O.map (·.2))) = tot k ((AC ++ BC).zip (AN ++ BN)) - (if hasB (AC ++ BC) c = true ∧ k = c then 1 else 0)) := by
                          intro k
                          have h1 := wo_tot c k _ hP
                          rw [hfst, HO.out] at h1
                          rw [zip_parts]
                          exact h1
                        clear hcl hP hPO hfst hpos HU lA lB HO
                        generalize AC ++ BC = JC at P4 HLEN HTOT
                        generalize AN ++ BN = JN at P5 HTOT
                        go_wp2_with (go_at_call 9; refine (pos_any _ O.length _ (O.map (·.2)) _ P7.out (by omega)).mono ?_)
                        rintro e w12 ⟨rfl, hw⟩
                        subst hw
                        rw [HPO.out]
                        go_wp2_with (go_at_call 7; refine (has_any _ (n0 + n2) _ JC c _ P4.out (by omega)).mono ?_)
                        rintro e w13 ⟨rfl, hw⟩
                        subst hw
                        generalize hpr : hasB JC c = pr at HLEN HTOT
                        clear hpr
                        go_upto_if 161 with fail
                        go_cut [] (fun wx => wx = w13)
                        case first =>
                          as_aux_lemma =>
                            cases pr with
                            | true =>
                              rcases HLEN.out with h | ⟨_, h⟩
                              · have hb1 : ((O.length : Int) != (n0 : Int) + (n2 : Int)) = false := by simp; omega
                                clear h HTOT HLEN
                                go_wp2
                                go_meet
                                case rel => rfl
                              · have hb1 : ((O.length : Int) != (n0 : Int) + (n2 : Int)) = true := by simp; omega
                                have hb2 : ((O.length : Int) + 1 != (n0 : Int) + (n2 : Int)) = false := by simp; omega
                                clear h HTOT HLEN
                                go_wp2
                                go_meet
                                case rel => rfl
                            | false =>
                              have h : O.length = n0 + n2 := by
                                rcases HLEN.out with h | ⟨h, _⟩
                                · exact h
                                · exact absurd h (by decide)
                              have hb1 : ((O.length : Int) != (n0 : Int) + (n2 : Int)) = false := by simp; omega
                              clear h HTOT HLEN
                              go_wp2
                              go_meet
                              case rel => rfl
                        case rest =>
                          as_aux_lemma =>
                            obtain rfl := hcut
                            clear HLEN HPO
                            go_wp2
                            go_loop [26] (fun i => ∃ k : Nat, k ≤ n0 + n2 ∧ i = .int .i64 k) (fun i => n0 + n2 - (intOf i).toNat)
                            case atStart => exact ⟨0, Nat.zero_le _, rfl⟩
                            case round =>
                              obtain ⟨k, hk, rfl⟩ := hrel
                              by_cases hlt : k < n0 + n2
                              · obtain ⟨_, h | ⟨pb, pf, hpe, hc⟩⟩ := P4.out
                                · omega
                                have z1 := hc k hlt
                                simp only [Option.some.injEq, Addr.mk.injEq, and_true] at hpe
                                obtain ⟨rfl, rfl⟩ := hpe
                                simp only [Nat.zero_add] at z1
                                clear hc
                                generalize JC.getD k 0 = kv at z1
                                have hE := HTOT.out kv
                                go_wp2_with (go_at_call 10; refine (agree_any _ _ _ _ (n0 + n2) O.length _ _ _ _ JC JN (O.map (·.1)) (O.map (·.2)) kv c pr _ P4.out P5.out P6.out P7.out (by omega) (by omega) hE).mono ?_; rintro e w14 ⟨rfl, rfl⟩)
                                go_round
                                case rel => exact ⟨k + 1, by omega, by go_num⟩
                                case measure => simp [intOf]; omega
                              · go_wp2
                                go_loop [27] (fun i => ∃ k : Nat, k ≤ O.length ∧ i = .int .i64 k) (fun i => O.length - (intOf i).toNat)
                                case atStart => exact ⟨0, Nat.zero_le _, rfl⟩
                                case round =>
                                  obtain ⟨k, hk, rfl⟩ := hrel
                                  by_cases hlt : k < O.length
                                  · obtain ⟨_, h | ⟨pb, pf, hpe, hc⟩⟩ := P6.out
                                    · omega
                                    have z1 := hc k hlt
                                    simp only [Option.some.injEq, Addr.mk.injEq, and_true] at hpe
                                    obtain ⟨rfl, rfl⟩ := hpe
                                    simp only [Nat.zero_add] at z1
                                    clear hc
                                    generalize (O.map (·.1)).getD k 0 = kv at z1
                                    have hE := HTOT.out kv
                                    go_wp2_with (go_at_call 10; refine (agree_any _ _ _ _ (n0 + n2) O.length _ _ _ _ JC JN (O.map (·.1)) (O.map (·.2)) kv c pr _ P4.out P5.out P6.out P7.out (by omega) (by omega) hE).mono ?_; rintro e w14 ⟨rfl, rfl⟩)
                                    go_round
                                    case rel => exact ⟨k + 1, by omega, by go_num⟩
                                    case measure => simp [intOf]; omega
                                  · go_wp2
                                    go_ret
                                    exact ⟨rfl, hbw10⟩
end Go.Proofs.Qxb6618350a
