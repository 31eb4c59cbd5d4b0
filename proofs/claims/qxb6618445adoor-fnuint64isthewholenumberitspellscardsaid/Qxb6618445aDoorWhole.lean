/-
  Walk of zzWholeValue (6).
-/
import Derived.Test.Qxb6618445aDoorWalk
namespace Go.Proofs.Qxb6618445aDoor
open Go.RowKit

def WholePost (r : Nat × Bool) (w : World) (e : Ending) (w' : World) : Prop := e = .returned (.tuple #[.int .u64 (r.1 : Int), .bool r.2]) ∧ w' = w
theorem wholePost (r : Nat × Bool) (w : World) (x : Int) (y : Bool) (h1 : x = r.1) (h2 : y = r.2) : WholePost r w (.returned (.tuple #[.int .u64 x, .bool y])) w := ⟨by rw [h1, h2], rfl⟩

theorem take_snoc (l : List UInt8) (k : Nat) (hk : k < l.length) : digs (l.take (k + 1)) = digs (l.take k) ++ [(l.getD k 0).toNat - 48] := by
  unfold digs
  rw [List.take_add_one, List.getElem?_eq_getElem hk, List.map_append, List.getD_eq_getElem?_getD, List.getElem?_eq_getElem hk]
  rfl

set_option maxHeartbeats 2000000 in
theorem whole_any (neg : Bool) (s : ByteArray) (exp : Int) (w : World) (hs : s.size ≤ 1048576) (hexp : exp ≤ 4611686018427387904) (hD : Digits s.data.toList) :
    Calls Tryd.prog 6 #[.bool neg, .string s, .int .i64 exp] w fun e w' => WholePost (WV neg s.data.toList exp) w e w' := by
  have hlen : s.data.toList.length = s.size := by simp
  by_cases hE : s.data.toList = []
  · have HW : Hid (WV neg s.data.toList exp = (0, true)) := by show _ = _; unfold WV; rw [if_pos hE]
    have hse : s.toList.isEmpty = true := by rw [ByteArray.toList_eq, hE]; rfl
    clear hE hlen hD
    go_enter Tryd.func6, Tryd.ntmps6
    go_wp2
    go_ret2
    exact wholePost _ _ _ _ (by rw [HW.out]; rfl) (by rw [HW.out])
  have hse : s.toList.isEmpty = false := by
    rw [ByteArray.toList_eq]
    cases h : s.data.toList with
    | nil => exact absurd h hE
    | cons _ _ => rfl
  cases neg with
  | true =>
    have HW : Hid (WV true s.data.toList exp = (0, false)) := by show _ = _; unfold WV; rw [if_neg hE, if_pos rfl]
    clear hE hlen hD
    go_enter Tryd.func6, Tryd.ntmps6
    go_wp2
    go_ret2
    exact wholePost _ _ _ _ (by rw [HW.out]; rfl) (by rw [HW.out])
  | false =>
    by_cases hx : exp < 0
    · have HW : Hid (WV false s.data.toList exp = (0, false)) := by show _ = _; unfold WV; rw [if_neg hE, if_neg (by simp), if_pos hx]
      clear hE hlen hD
      go_enter Tryd.func6, Tryd.ntmps6
      go_wp2
      go_ret2
      exact wholePost _ _ _ _ (by rw [HW.out]; rfl) (by rw [HW.out])
    by_cases h20 : 20 < (s.size : Int) + exp
    · have HW : Hid (WV false s.data.toList exp = (0, false)) := by show _ = _; unfold WV; rw [if_neg hE, if_neg (by simp), if_neg hx, if_pos (by omega)]
      clear hE hlen hD
      go_enter Tryd.func6, Tryd.ntmps6
      go_wp2
      go_ret2
      exact wholePost _ _ _ _ (by rw [HW.out]; rfl) (by rw [HW.out])
    obtain ⟨m, rfl⟩ : ∃ m : Nat, exp = m := ⟨exp.toNat, by omega⟩
    have HW : Hid (WV false s.data.toList m = if (RUN (0, false) (digs s.data.toList ++ List.replicate m 0)).2 then (18446744073709551615, false) else ((RUN (0, false) (digs s.data.toList ++ List.replicate m 0)).1, true)) := by
      show _ = _; unfold WV; rw [if_neg hE, if_neg (by simp), if_neg hx, if_neg (by omega)]; rfl
    have HL : Hid (s.data.toList.length = s.size) := hlen
    have HD : Hid (Digits s.data.toList) := hD
    clear hE hlen hD hx
    go_enter Tryd.func6, Tryd.ntmps6
    go_wp2
    go_loopw [8, 9, 10] (fun v o i wr => ∃ (k x : Nat) (b : Bool), k ≤ s.size ∧ v = .int .u64 (x : Int) ∧ o = .bool b ∧ i = .int .i64 k ∧ x ≤ 18446744073709551615 ∧ Hid ((x, b) = RUN (0, false) (digs (s.data.toList.take k))) ∧ wr = w) (fun _ _ i _ => s.size - (intOf i).toNat)
    case atStart => exact ⟨0, 0, false, Nat.zero_le _, rfl, rfl, rfl, by omega, rfl, rfl⟩
    case round =>
      obtain ⟨k, x, b, hk, rfl, rfl, rfl, hxm, hrun, rfl⟩ := hrel
      by_cases hlt : k < s.size
      · have hi : ∀ W, (Instr.index 9 (.string s) (.int .i64 (k : Int))).run Tryd.prog W = .ok (.int .u8 ((s.data.toList.getD k 0).toNat : Int)) W := fun W => idx s _ k rfl hlt W
        have hd := HD.out _ (mem_getD (l := s.data.toList) (k := k) (by rw [HL.out]; exact hlt))
        have HN : Hid (st (x, b) ((s.data.toList.getD k 0).toNat - 48) = RUN (0, false) (digs (s.data.toList.take (k + 1)))) := by
          show _ = _
          rw [take_snoc _ _ (by rw [HL.out]; exact hlt), RUN_snoc, ← hrun.out]
        generalize (s.data.toList.getD k 0).toNat = c at hi hd HN
        obtain ⟨d, rfl⟩ : ∃ d, c = d + 48 := ⟨c - 48, by omega⟩
        have hd9 : d ≤ 9 := by omega
        rw [Nat.add_sub_cancel] at HN
        cases b with
        | true =>
          have HN' : Hid ((x, true) = RUN (0, false) (digs (s.data.toList.take (k + 1)))) := HN
          clear HN
          go_wp2
          go_roundw
          case rel => exact ⟨k + 1, x, true, by omega, rfl, rfl, by go_num, hxm, HN', trivial⟩
          case measure => simp [intOf]; omega
        | false =>
          have HN' : Hid (tt x d = RUN (0, false) (digs (s.data.toList.take (k + 1)))) := HN
          have hle := tt_le x d
          clear HN
          have w8 : IntKind.u8.wrap ((d : Int) + 48 - 48) = d := by
            rw [show (d : Int) + 48 - 48 = d by omega]
            unfold IntKind.wrap
            simp [IntKind.bits, IntKind.signed]
            omega
          have w64 : IntKind.u64.wrap (d : Int) = d := u64_id (by omega) (by omega)
          go_wp2_with (go_at_call 9; refine (times_any x d _ hxm hd9).mono ?_; rintro e w1 ⟨rfl, rfl⟩)
          go_wp2
          go_roundw
          case rel => exact ⟨k + 1, (tt x d).1, (tt x d).2, by omega, rfl, rfl, by go_num, hle, HN', trivial⟩
          case measure => simp [intOf]; omega
      · have hks : k = s.size := by omega
        have HN : Hid ((x, b) = RUN (0, false) (digs s.data.toList)) := by
          have h := hrun.out
          rw [hks, List.take_of_length_le (by rw [HL.out]; exact Nat.le_refl _)] at h
          exact h
        clear hrun hks
        go_wp2
        obtain ⟨w0, rfl⟩ : ∃ w0 : World, w0 = wr := ⟨_, rfl⟩
        go_loopw [8, 9, 11] (fun v o i wr => ∃ (k x : Nat) (b : Bool), k ≤ m ∧ v = .int .u64 (x : Int) ∧ o = .bool b ∧ i = .int .i64 k ∧ x ≤ 18446744073709551615 ∧ Hid ((x, b) = RUN (0, false) (digs s.data.toList ++ List.replicate k 0)) ∧ wr = w0) (fun _ _ i _ => m - (intOf i).toNat)
        case atStart => exact ⟨0, x, b, Nat.zero_le _, rfl, rfl, rfl, hxm, by simpa using HN, rfl⟩
        case round =>
          clear HN hxm hk hlt
          obtain ⟨k, x, b, hk, rfl, rfl, rfl, hxm, hrun, rfl⟩ := hrel
          by_cases hlt : k < m
          · have HN : Hid (st (x, b) 0 = RUN (0, false) (digs s.data.toList ++ List.replicate (k + 1) 0)) := by
              show _ = _
              rw [List.replicate_succ', ← List.append_assoc, RUN_snoc, ← hrun.out]
            cases b with
            | true =>
              have HN' : Hid ((x, true) = RUN (0, false) (digs s.data.toList ++ List.replicate (k + 1) 0)) := HN
              clear HN
              go_wp2
              go_roundw
              case rel => exact ⟨k + 1, x, true, by omega, rfl, rfl, by go_num, hxm, HN', trivial⟩
              case measure => simp [intOf]; omega
            | false =>
              have HN' : Hid (tt x 0 = RUN (0, false) (digs s.data.toList ++ List.replicate (k + 1) 0)) := HN
              have hle := tt_le x 0
              clear HN
              go_wp2_with (go_at_call 9; refine (times_any x 0 _ hxm (by omega)).mono ?_; rintro e w1 ⟨rfl, rfl⟩)
              go_wp2
              go_roundw
              case rel => exact ⟨k + 1, (tt x 0).1, (tt x 0).2, by omega, rfl, rfl, by go_num, hle, HN', trivial⟩
              case measure => simp [intOf]; omega
          · have hkm : k = m := by omega
            have HN : Hid ((x, b) = RUN (0, false) (digs s.data.toList ++ List.replicate m 0)) := by
              have h := hrun.out
              rw [hkm] at h
              exact h
            clear hrun hkm
            cases b with
            | true =>
              go_wp2
              go_ret2
              exact wholePost _ _ _ _ (by rw [HW.out, ← HN.out]; rfl) (by rw [HW.out, ← HN.out]; rfl)
            | false =>
              go_wp2
              go_ret2
              exact wholePost _ _ _ _ (by rw [HW.out, ← HN.out]; rfl) (by rw [HW.out, ← HN.out]; rfl)
end Go.Proofs.Qxb6618445aDoor
