/-
  Walks of classTotal (12) and totalsAgree (10).
-/
import Derived.Test.Qxb6618350aSmall
namespace Go.Proofs.Qxb6618350a
open Go.RowKit

/-- uint64's wrap. -/
def u64m (x : Int) : Int := x % 18446744073709551616

theorem u64_eq (x : Int) : IntKind.u64.wrap x = u64m x := by
  unfold u64m IntKind.wrap
  simp [IntKind.bits, IntKind.signed]
theorem u64_add (a y : Int) : IntKind.u64.wrap (u64m a + IntKind.u64.wrap y) = u64m (a + y) := by
  rw [u64_eq, u64_eq]; unfold u64m; omega
theorem u64_dec (a : Int) : IntKind.u64.wrap (u64m a - 1) = u64m (a - 1) := by
  rw [u64_eq]; unfold u64m; omega
theorem zip_getD (C N : List Int) (n j : Nat) (hC : C.length = n) (hN : N.length = n) (hj : j < n) : (C.zip N).getD j (0, 0) = (C.getD j 0, N.getD j 0) := by
  simp [List.getD_eq_getElem?_getD, List.getElem?_eq_getElem (show j < C.length by omega), List.getElem?_eq_getElem (show j < N.length by omega), List.getElem?_eq_getElem (show j < (C.zip N).length by simp; omega)]

set_option maxHeartbeats 400000 in
theorem ctot_any (co no : Option Addr) (n cc cn : Nat) (C N : List Int) (k : Int) (w : World) (hC : IntRow w co n C) (hN : IntRow w no n N) (hn : n ≤ 1048576) :
    Calls Try.prog 12 #[.slice co n cc, .slice no n cn, .int .i64 k] w fun e w' => e = .returned (.int .u64 (u64m (tot k (C.zip N)))) ∧ w' = w := by
  have lC := hC.1
  have lN := hN.1
  have HLC : Hid (C.length = n) := lC
  have HLN : Hid (N.length = n) := lN
  clear lC lN
  go_enter Try.func12, Try.ntmps12
  go_wp2
  go_loop [7, 8] (fun t i => ∃ j : Nat, j ≤ n ∧ i = .int .i64 j ∧ t = .int .u64 (u64m (tot k ((C.zip N).take j)))) (fun _ i => n - (intOf i).toNat)
  case atStart => exact ⟨0, Nat.zero_le _, rfl, rfl⟩
  case round =>
    obtain ⟨j, hj, rfl, rfl⟩ := hrel
    by_cases hlt : j < n
    · obtain ⟨_, h0 | ⟨b, off, rfl, hc⟩⟩ := hC
      · omega
      obtain ⟨_, h0 | ⟨b', off', rfl, hc'⟩⟩ := hN
      · omega
      have z1 := hc j hlt
      have z2 := hc' j hlt
      clear hc hc'
      have hst := tot_take k (C.zip N) j (by rw [List.length_zip, HLC.out, HLN.out]; omega)
      rw [zip_getD C N n j HLC.out HLN.out hlt] at hst
      simp only at hst
      by_cases he : C.getD j 0 = k
      · rw [if_pos he] at hst
        have HS : Hid (IntKind.u64.wrap (u64m (tot k ((C.zip N).take j)) + IntKind.u64.wrap (N.getD j 0)) = u64m (tot k ((C.zip N).take (j + 1)))) := by
          show _ = _
          rw [u64_add, hst]
        clear hst
        generalize C.getD j 0 = x at z1 he
        generalize N.getD j 0 = y at z2 HS
        have hb : (x == k) = true := by simpa using he
        clear he
        generalize u64m (tot k ((C.zip N).take j)) = T at HS ⊢
        go_wp2
        go_round
        case rel => exact ⟨j + 1, by omega, by go_num, by rw [HS.out]⟩
        case measure => simp [intOf]; omega
      · rw [if_neg he, Int.add_zero] at hst
        have HS : Hid (tot k ((C.zip N).take j) = tot k ((C.zip N).take (j + 1))) := hst.symm
        clear hst
        generalize C.getD j 0 = x at z1 he
        have hb : (x == k) = false := by simpa using he
        clear he z2
        generalize hT : tot k ((C.zip N).take j) = T at HS ⊢
        clear hT
        go_wp2
        go_round
        case rel => exact ⟨j + 1, by omega, by go_num, by rw [HS.out]⟩
        case measure => simp [intOf]; omega
    · have HS : Hid ((C.zip N).take j = C.zip N) := by
        show _ = _
        exact List.take_of_length_le (by rw [List.length_zip, HLC.out, HLN.out]; omega)
      generalize hT : (C.zip N).take j = L at HS ⊢
      clear hT
      go_wp2
      go_ret
      exact ⟨by rw [HS.out]; rfl, rfl⟩

set_option maxHeartbeats 1000000 in
theorem agree_any (co no do_ eo : Option Addr) (n m cc cn cd ce : Nat) (C N C' N' : List Int) (k c : Int) (p : Bool) (w : World) (hC : IntRow w co n C) (hN : IntRow w no n N) (hC' : IntRow w do_ m C') (hN' : IntRow w eo m N') (hn : n ≤ 1048576) (hm : m ≤ 1048576)
    (hE : tot k (C'.zip N') = tot k (C.zip N) - (if p = true ∧ k = c then 1 else 0)) :
    Calls Try.prog 10 #[.slice co n cc, .slice no n cn, .slice do_ m cd, .slice eo m ce, .int .i64 k, .int .i64 c, .bool p] w fun e w' => e = .returned (.bool true) ∧ w' = w := by
  have HC : Hid (IntRow w co n C) := hC
  have HN : Hid (IntRow w no n N) := hN
  have HC' : Hid (IntRow w do_ m C') := hC'
  have HN' : Hid (IntRow w eo m N') := hN'
  clear hC hN hC' hN'
  by_cases hp : p = true ∧ k = c
  · rw [if_pos hp] at hE
    obtain ⟨rfl, rfl⟩ := hp
    have hb : (k == k) = true := by simp
    have HS : Hid (IntKind.u64.wrap (u64m (tot k (C.zip N)) - 1) = u64m (tot k (C'.zip N'))) := by
      show _ = _
      rw [u64_dec, hE]
    clear hE
    go_enter Try.func10, Try.ntmps10
    go_wp2_with (go_at_call 12; refine (ctot_any co no n cc cn C N k _ HC.out HN.out hn).mono ?_)
    rintro e w1 ⟨rfl, rfl⟩
    generalize u64m (tot k (C.zip N)) = T at HS ⊢
    go_wp2_with (go_at_call 12; refine (ctot_any do_ eo m cd ce C' N' k _ HC'.out HN'.out hm).mono ?_)
    rintro e w2 ⟨rfl, rfl⟩
    rw [← HS.out]
    go_wp2
    go_ret
    exact ⟨by simp, rfl⟩
  · rw [if_neg hp, Int.sub_zero] at hE
    have hb : (p && (k == c)) = false := by
      cases p with
      | false => rfl
      | true => simp at hp ⊢; exact hp
    have HS : Hid (u64m (tot k (C.zip N)) = u64m (tot k (C'.zip N'))) := by
      show _ = _
      rw [hE]
    clear hE
    cases p with
    | false =>
      go_enter Try.func10, Try.ntmps10
      go_wp2_with (go_at_call 12; refine (ctot_any co no n cc cn C N k _ HC.out HN.out hn).mono ?_)
      rintro e w1 ⟨rfl, rfl⟩
      generalize u64m (tot k (C.zip N)) = T at HS ⊢
      go_wp2_with (go_at_call 12; refine (ctot_any do_ eo m cd ce C' N' k _ HC'.out HN'.out hm).mono ?_)
      rintro e w2 ⟨rfl, rfl⟩
      rw [← HS.out]
      go_wp2
      go_ret
      exact ⟨by simp, rfl⟩
    | true =>
      have hb' : (k == c) = false := by simpa using hb
      clear hp hb
      go_enter Try.func10, Try.ntmps10
      go_wp2_with (go_at_call 12; refine (ctot_any co no n cc cn C N k _ HC.out HN.out hn).mono ?_)
      rintro e w1 ⟨rfl, rfl⟩
      generalize u64m (tot k (C.zip N)) = T at HS ⊢
      go_wp2_with (go_at_call 12; refine (ctot_any do_ eo m cd ce C' N' k _ HC'.out HN'.out hm).mono ?_)
      rintro e w2 ⟨rfl, rfl⟩
      rw [← HS.out]
      go_wp2
      go_ret
      exact ⟨by simp, rfl⟩
end Go.Proofs.Qxb6618350a
