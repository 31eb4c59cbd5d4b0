/-
  The walk of FnMiddleIsShortestScript (3).
-/
import Derived.Test.Qxb6618347aLcs
import Derived.Deep.DeepCutAuto
namespace Go.Proofs.Qxb6618347a
open Go.RowKit

theorem size9 : (Try.prog.info? 9).map (·.size) = some 1 := by kernel_rfl

set_option maxHeartbeats 4000000 in
set_option maxRecDepth 100000 in
theorem law2 (A B : List ByteArray) (ao bo : Option Addr) (ca cb : Nat) (w : World) (hA : StrRow w ao A.length A) (hB : StrRow w bo B.length B) :
    Calls Try.prog 3 #[.slice ao A.length ca, .slice bo B.length cb] w fun e w' => e = .returned (.bool true) ∧ Below w.heap.size w w' := by
  obtain ⟨i9, hi9, hy0, hy1, hy2⟩ := info_parts Try.info9
  have HA : Hid (StrRow w ao A.length A) := hA
  have HB : Hid (StrRow w bo B.length B) := hB
  clear hA hB
  go_enter Try.func3, Try.ntmps3
  go_wp2_with (go_at_call 5; refine (guard2 ao bo A.length ca B.length cb A B _ HA.out HB.out).mono ?_)
  rintro e w1 ⟨r, rfl, rfl⟩
  cases r with
  | false =>
    go_wp2
    go_ret
    exact ⟨rfl, Below.refl _ _⟩
  | true =>
    by_cases h2 : 1024 < A.length
    · go_wp2
      go_ret
      exact ⟨rfl, Below.refl _ _⟩
    by_cases h3 : 1024 < B.length
    · go_wp2
      go_ret
      exact ⟨rfl, Below.refl _ _⟩
    go_upto_if 25 with fail
    go_cut [0, 5] (fun s1 _ wc => ∃ ao' ca', s1 = .slice ao' A.length ca' ∧ StrRow wc ao' A.length A ∧ Below w1.heap.size w1 wc)
    case first =>
      cases ao with
      | none =>
        go_wp2
        go_meet
        case rel => exact ⟨none, ca, rfl, HA.out, Below.refl _ _⟩
      | some a0 =>
        go_wp2_with (at_make; refine wpList_make_full _ rfl _ _ 22 rfl w1.heap.size 9 i9 _ 1 Try.underlying22 hi9 hy0 hy1 _ _ _ _ A.length rfl rfl (by omega) (by omega) (by rw [hy2]; omega) (by unfold maxLen; omega) (Nat.le_refl _) ?_)
        intro w2 hk hg2
        have hb2 : Below w1.heap.size w1 w2 := (Below.refl _ _).grown hg2 (Nat.le_refl _) (by rintro k ⟨⟩)
        have hrow : Hid (w2.heap[w1.heap.size]? = some (.cells (List.replicate A.length (.string ByteArray.empty)).toArray 9 (0, 0))) := made_row (by simpa [toList_madeCells_one] using hk)
        have hA2 : Hid (StrRow w2 (some a0) A.length A) := HA.out.later hb2
        clear hk hg2
        go_wp2_with (refine wpList_copy_splice rfl (.tmp 29) (.tmp 30) 22 22 rfl 9 Try.underlying22 size9 (some ⟨w1.heap.size, 0, none⟩) (some a0) A.length A.length A.length ca rfl rfl w1.heap.size 0 (List.replicate A.length (.string ByteArray.empty)) 9 hrow.out ((List.range A.length).map (scell A)) (by simp) (src_cells hA2.out _) (by simp) (scells_one _ _) w1.heap.size w1 hb2 (Nat.le_refl _) ?_)
        intro w3 HG3 hb3
        go_wp2
        go_meet
        case rel => exact ⟨_, _, rfl, strRow_splice HG3.out rfl, hb3⟩
    case rest =>
      obtain ⟨ao', ca', rfl, hA3, hb3⟩ := hcut
      obtain ⟨wd, rfl⟩ : ∃ wd : World, wd = wc := ⟨_, rfl⟩
      have HA3 : Hid (StrRow wd ao' A.length A) := hA3
      have HB3 : Hid (StrRow wd bo B.length B) := HB.out.later hb3
      clear hA3 HA HB
      go_upto_if 34 with fail
      go_cut [1, 6] (fun s2 _ wx => ∃ bo' cb', s2 = .slice bo' B.length cb' ∧ StrRow wx bo' B.length B ∧ Below wd.heap.size wd wx)
      case first =>
        cases bo with
        | none =>
          go_wp2
          go_meet
          case rel => exact ⟨none, cb, rfl, HB3.out, Below.refl _ _⟩
        | some b0 =>
          go_wp2_with (at_make; refine wpList_make_full _ rfl _ _ 22 rfl wd.heap.size 9 i9 _ 1 Try.underlying22 hi9 hy0 hy1 _ _ _ _ B.length rfl rfl (by omega) (by omega) (by rw [hy2]; omega) (by unfold maxLen; omega) (Nat.le_refl _) ?_)
          intro w2 hk hg2
          have hb2 : Below wd.heap.size wd w2 := (Below.refl _ _).grown hg2 (Nat.le_refl _) (by rintro k ⟨⟩)
          have hrow : Hid (w2.heap[wd.heap.size]? = some (.cells (List.replicate B.length (.string ByteArray.empty)).toArray 9 (0, 0))) := made_row (by simpa [toList_madeCells_one] using hk)
          have hB2 : Hid (StrRow w2 (some b0) B.length B) := HB3.out.later hb2
          clear hk hg2
          go_wp2_with (refine wpList_copy_splice rfl (.tmp 38) (.tmp 39) 22 22 rfl 9 Try.underlying22 size9 (some ⟨wd.heap.size, 0, none⟩) (some b0) B.length B.length B.length cb rfl rfl wd.heap.size 0 (List.replicate B.length (.string ByteArray.empty)) 9 hrow.out ((List.range B.length).map (scell B)) (by simp) (src_cells hB2.out _) (by simp) (scells_one _ _) wd.heap.size wd hb2 (Nat.le_refl _) ?_)
          intro w3 HG3 hb4
          go_wp2
          go_meet
          case rel => exact ⟨_, _, rfl, strRow_splice HG3.out rfl, hb4⟩
      case rest =>
        obtain ⟨bo', cb', rfl, hB4, hb4⟩ := hcut
        have hbw : Below w1.heap.size w1 wc := hb3.trans (hb4.mono hb3.size)
        have HA4 : Hid (StrRow wc ao' A.length A) := HA3.out.later hb4
        have HB4 : Hid (StrRow wc bo' B.length B) := hB4
        clear hB4 HA3 HB3 hb3 hb4
        go_wp2_with (go_at_call 6; refine (bytes_any 0 ao' A.length ca' 1048576 A _ (by omega) (by omega) (by omega) (by omega) HA4.out).mono ?_)
        rintro e w4 ⟨r1, rfl, hr1, rfl⟩
        by_cases c1 : 1048576 < r1
        · go_wp2
          go_ret
          exact ⟨rfl, hbw⟩
        go_wp2_with (go_at_call 6; refine (bytes_any r1 bo' B.length cb' 1048576 B _ hr1 (by omega) (by omega) (by omega) HB4.out).mono ?_)
        rintro e w5 ⟨r2, rfl, hr2, rfl⟩
        by_cases c2 : 1048576 < r2
        · go_wp2
          go_ret
          exact ⟨rfl, hbw⟩
        go_wp2_with (go_at_call 7; refine (zz_len A B A.length B.length rfl rfl _ _ _ _ _ HA4.out HB4.out (by omega) (by omega)).mono ?_)
        rintro e w9 ⟨E, gk, gl, hS, rfl, hk, hl, hb9⟩
        have HA9 : Hid (StrRow w9 ao' A.length A) := HA4.out.later hb9
        have HB9 : Hid (StrRow w9 bo' B.length B) := HB4.out.later hb9
        have hbw9 : Below w1.heap.size w1 w9 := hbw.trans (hb9.mono hbw.size)
        have hlen := script_len hS
        have HC : Hid (ck A B E (0, 0, 0) = some (A.length, B.length, A.length + B.length - 2 * LL A B A.length B.length)) := script_ck hS
        have hLL := LL_le A B A.length B.length
        have C1 : Hid (∀ j, j < E.length → w9.cell? ⟨gk, j, none⟩ = some (kcell E j)) := fun j hj => cells_of_range hk j hj
        have C2 : Hid (∀ j, j < E.length → w9.cell? ⟨gl, j, none⟩ = some (lcell E j)) := fun j hj => cells_of_range hl j hj
        clear HA4 HB4 hbw hb9 hk hl hS
        go_wp2
        go_loopw [10, 11, 12, 13] (fun iv jv cv ev wr => ∃ (i j c e q : Nat), e ≤ E.length ∧ c ≤ e ∧ i ≤ e ∧ j ≤ e ∧ iv = .int .i64 i ∧ jv = .int .i64 j ∧ cv = .int .i64 c ∧ ev = .int .i64 e ∧ Hid (ck A B (E.drop e) (i, j, c) = some (A.length, B.length, A.length + B.length - 2 * LL A B A.length B.length)) ∧ wr = w9.drewN q)
          (fun _ _ _ ev _ => E.length - (intOf ev).toNat)
        case atStart => exact ⟨0, 0, 0, 0, 0, Nat.zero_le _, Nat.le_refl _, Nat.le_refl _, Nat.le_refl _, rfl, rfl, rfl, rfl, HC, rfl⟩
        case round =>
          obtain ⟨i, j, c, e, q, he, hce, hie, hje, rfl, rfl, rfl, rfl, hck, rfl⟩ := hrel
          by_cases hlt : e < E.length
          · obtain ⟨k, l, hE, hcase⟩ := ck_step hck.out hlt
            have z1 := C1.out e hlt
            have z2 := C2.out e hlt
            unfold kcell at z1
            unfold lcell at z2
            rw [List.getD_eq_getElem?_getD, hE] at z1 z2
            simp only [Option.getD_some] at z1 z2
            clear hE hck
            rcases hcase with ⟨rfl, hiA, hjB, hlA, hlB, hck'⟩ | ⟨rfl, hiA, hlA, hck'⟩ | ⟨rfl, hjB, hlB, hck'⟩
            · have HCK : Hid (ck A B (E.drop (e + 1)) (i + 1, j + 1, c) = some (A.length, B.length, A.length + B.length - 2 * LL A B A.length B.length)) := hck'
              clear hck'
              obtain ⟨_, h | ⟨ba, oa, rfl, hcA⟩⟩ := HA9.out
              · omega
              have zA := hcA i hiA
              rw [← hlA] at zA
              clear hcA
              have g1 : decide ((A.length : Int) ≤ (i : Int)) = false := decide_eq_false (by omega)
              obtain ⟨_, h | ⟨bb, ob, rfl, hcB⟩⟩ := HB9.out
              · omega
              have zB := hcB j hjB
              rw [← hlB] at zB
              clear hcB
              have g2 : decide ((B.length : Int) ≤ (j : Int)) = false := decide_eq_false (by omega)
              clear hlA hlB
              have hb5 : (l.toList != l.toList) = false := by simp
              go_wp2
              go_quiet (fail)
              go_wp2
              go_roundw
              case rel => exact ⟨i + 1, j + 1, c, e + 1, _, by omega, by omega, by omega, by omega, by go_num, by go_num, by go_num, by go_num, HCK, rfl⟩
              case measure => simp [intOf]; omega
            · have HCK : Hid (ck A B (E.drop (e + 1)) (i + 1, j, c + 1) = some (A.length, B.length, A.length + B.length - 2 * LL A B A.length B.length)) := hck'
              clear hck'
              obtain ⟨_, h | ⟨ba, oa, rfl, hcA⟩⟩ := HA9.out
              · omega
              have zA := hcA i hiA
              rw [← hlA] at zA
              clear hcA
              have g1 : decide ((A.length : Int) ≤ (i : Int)) = false := decide_eq_false (by omega)
              clear hlA
              have hb5 : (l.toList != l.toList) = false := by simp
              go_wp2
              go_quiet (fail)
              go_wp2
              go_roundw
              case rel => exact ⟨i + 1, j, c + 1, e + 1, _, by omega, by omega, by omega, by omega, by go_num, by go_num, by go_num, by go_num, HCK, rfl⟩
              case measure => simp [intOf]; omega
            · have HCK : Hid (ck A B (E.drop (e + 1)) (i, j + 1, c + 1) = some (A.length, B.length, A.length + B.length - 2 * LL A B A.length B.length)) := hck'
              clear hck'
              obtain ⟨_, h | ⟨bb, ob, rfl, hcB⟩⟩ := HB9.out
              · omega
              have zB := hcB j hjB
              rw [← hlB] at zB
              clear hcB
              have g2 : decide ((B.length : Int) ≤ (j : Int)) = false := decide_eq_false (by omega)
              clear hlB
              have hb5 : (l.toList != l.toList) = false := by simp
              go_wp2
              go_quiet (fail)
              go_wp2
              go_roundw
              case rel => exact ⟨i, j + 1, c + 1, e + 1, _, by omega, by omega, by omega, by omega, by go_num, by go_num, by go_num, by go_num, HCK, rfl⟩
              case measure => simp [intOf]; omega
          · have hend := ck_end hck.out (by omega)
            simp only [Prod.mk.injEq] at hend
            obtain ⟨rfl, rfl, rfl⟩ := hend
            have hbq : Below w9.heap.size w9 (w9.drewN q) := below_drewN' (Below.refl _ _) q
            have hA9 := HA9.out.later hbq
            have hB9 := HB9.out.later hbq
            have hbw10 : Below w1.heap.size w1 (w9.drewN q) := below_drewN' hbw9 q
            clear hck C1 C2 HC
            go_wp2_with (go_at_call 8; refine (lcs_any A B ao' bo' ca' cb' _ hA9 hB9 (by omega) (by omega)).mono ?_)
            rintro e9 w11 ⟨rfl, hb11⟩
            have hfin : (((A.length + B.length - 2 * LL A B A.length B.length : Nat) : Int) == (A.length : Int) + B.length - 2 * (LL A B A.length B.length : Int)) = true := beq_iff_eq.2 (by omega)
            have HFIN : Hid ((((A.length + B.length - 2 * LL A B A.length B.length : Nat) : Int) == (A.length : Int) + B.length - 2 * (LL A B A.length B.length : Int)) = true) := hfin
            go_wp2
            go_ret
            refine ⟨?_, hbw10.trans (hb11.mono hbw10.size)⟩
            first
              | rfl
              | exact congrArg (fun b => Ending.returned (Value.bool b)) HFIN.out
end Go.Proofs.Qxb6618347a
