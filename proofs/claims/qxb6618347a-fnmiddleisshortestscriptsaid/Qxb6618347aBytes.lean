/-
  Walks of the small counting functions: zzBytes (6) and the two guards (5, 9).
-/
import Derived.Test.Qxb6618347aProg
import Derived.WalkKit
import Derived.WalkSpells
import Derived.WalkLawsBesides
namespace Go.Proofs.Qxb6618347a
open Go.RowKit

/-- A slice of strings, as the walks are told of it. -/
def StrRow (w : World) (ao : Option Addr) (n : Nat) (ss : List ByteArray) : Prop :=
  ss.length = n ∧ (n = 0 ∨ ∃ b off, ao = some ⟨b, off, none⟩ ∧ ∀ j, j < n → w.cell? ⟨b, off + j, none⟩ = some (.string (ss.getD j ByteArray.empty)))

set_option maxHeartbeats 400000 in
theorem bytes_cons (n : Int) (b off len cap : Nat) (lim : Int) (ss : List ByteArray) (w : World) (h0 : 0 ≤ n) (h1 : n ≤ lim) (hlim : lim ≤ 1048576) (hl : len ≤ 1048576)
    (hc : ∀ j, j < len → w.cell? ⟨b, off + j, none⟩ = some (.string (ss.getD j ByteArray.empty))) :
    Calls Try.prog 6 #[.int .i64 n, .slice (some ⟨b, off, none⟩) len cap, .int .i64 lim] w fun e w' => ∃ r : Int, e = .returned (.int .i64 r) ∧ 0 ≤ r ∧ w' = w := by
  go_enter Try.func6, Try.ntmps6
  go_wp2
  go_loop [0, 7] (fun a i => ∃ (k : Nat) (r : Int), k ≤ len ∧ 0 ≤ r ∧ r ≤ lim ∧ i = .int .i64 k ∧ a = .int .i64 r) (fun _ i => len - (intOf i).toNat)
  case atStart => exact ⟨0, n, Nat.zero_le _, h0, h1, rfl, rfl⟩
  case round =>
    obtain ⟨k, r, hk, hr0, hr1, rfl, rfl⟩ := hrel
    by_cases hlt : k < len
    · have hcell := hc k hlt
      generalize ss.getD k ByteArray.empty = s at hcell
      clear hc
      by_cases hs : lim - r - 16 < (s.size : Int)
      · go_wp2
        go_ret
        exact ⟨_, rfl, by omega, rfl⟩
      · go_wp2
        go_round
        case rel => exact ⟨k + 1, r + (16 + s.size), by omega, by omega, by omega, by go_num, by go_num⟩
        case measure => simp [intOf]; omega
    · go_wp2
      go_ret
      exact ⟨_, rfl, by omega, rfl⟩

theorem bytes_any (n : Int) (ao : Option Addr) (len cap : Nat) (lim : Int) (ss : List ByteArray) (w : World) (h0 : 0 ≤ n) (h1 : n ≤ lim) (hlim : lim ≤ 1048576) (hl : len ≤ 1048576) (hr : StrRow w ao len ss) :
    Calls Try.prog 6 #[.int .i64 n, .slice ao len cap, .int .i64 lim] w fun e w' => ∃ r : Int, e = .returned (.int .i64 r) ∧ 0 ≤ r ∧ w' = w := by
  obtain ⟨hlen, rfl | ⟨b, off, rfl, hc⟩⟩ := hr
  · go_enter Try.func6, Try.ntmps6
    go_wp2
    refine wp_loop_rounds 1 ?_
    rw [rounds_succ]
    go_wp2
    go_ret
    exact ⟨_, rfl, by omega, rfl⟩
  · exact bytes_cons n b off len cap lim ss w h0 h1 hlim hl hc

set_option maxHeartbeats 400000 in
/-- The guard of the first law: some bool, nothing turned. -/
theorem guard2 (ao bo : Option Addr) (la ca lb cb : Nat) (A B : List ByteArray) (w : World) (hA : StrRow w ao la A) (hB : StrRow w bo lb B) :
    Calls Try.prog 5 #[.slice ao la ca, .slice bo lb cb] w fun e w' => ∃ r : Bool, e = .returned (.bool r) ∧ w' = w := by
  by_cases h1 : 1048576 < la
  · go_enter Try.func5, Try.ntmps5
    go_wp2
    go_ret
    first | exact ⟨.inl rfl, rfl⟩ | exact ⟨.inr rfl, rfl⟩ | exact ⟨_, rfl, rfl⟩
  go_enter Try.func5, Try.ntmps5
  go_wp2
  go_loop [5, 6] (fun z i => ∃ (k : Nat) (r : Int), k ≤ la ∧ 0 ≤ r ∧ r ≤ 1048576 ∧ i = .int .i64 k ∧ z = .int .i64 r) (fun _ i => la - (intOf i).toNat)
  case atStart => exact ⟨0, la, Nat.zero_le _, by omega, by omega, rfl, by go_num⟩
  case round =>
    obtain ⟨k, r, hk, hr0, hr1, rfl, rfl⟩ := hrel
    by_cases hlt : k < la
    · obtain ⟨_, h | ⟨b, off, rfl, hc⟩⟩ := hA
      · omega
      have hcell := hc k hlt
      generalize A.getD k ByteArray.empty = s at hcell
      clear hc
      go_wp2
      · go_ret
        first | exact ⟨.inl rfl, rfl⟩ | exact ⟨.inr rfl, rfl⟩ | exact ⟨_, rfl, rfl⟩
      · go_ret
        first | exact ⟨.inl rfl, rfl⟩ | exact ⟨.inr rfl, rfl⟩ | exact ⟨_, rfl, rfl⟩
      · go_round
        case rel => exact ⟨k + 1, r + s.size, by omega, by omega, by omega, by go_num, by go_num⟩
        case measure => simp [intOf]; omega
    · clear hk
      go_wp2
      · go_ret
        first | exact ⟨.inl rfl, rfl⟩ | exact ⟨.inr rfl, rfl⟩ | exact ⟨_, rfl, rfl⟩
      · go_ret
        first | exact ⟨.inl rfl, rfl⟩ | exact ⟨.inr rfl, rfl⟩ | exact ⟨_, rfl, rfl⟩
      · go_loop [5, 7] (fun z i => ∃ (k : Nat) (r : Int), k ≤ lb ∧ 0 ≤ r ∧ r ≤ 1048576 ∧ i = .int .i64 k ∧ z = .int .i64 r) (fun _ i => lb - (intOf i).toNat)
        case atStart => exact ⟨0, r + lb, Nat.zero_le _, by omega, by omega, rfl, by go_num⟩
        case round =>
          obtain ⟨k, r, hk, hr0, hr1, rfl, rfl⟩ := hrel
          by_cases hlt : k < lb
          · obtain ⟨_, h | ⟨b, off, rfl, hc⟩⟩ := hB
            · omega
            have hcell := hc k hlt
            generalize B.getD k ByteArray.empty = s at hcell
            clear hc
            go_wp2
            · go_ret
              first | exact ⟨.inl rfl, rfl⟩ | exact ⟨.inr rfl, rfl⟩ | exact ⟨_, rfl, rfl⟩
            · go_ret
              first | exact ⟨.inl rfl, rfl⟩ | exact ⟨.inr rfl, rfl⟩ | exact ⟨_, rfl, rfl⟩
            · go_round
              case rel => exact ⟨k + 1, r + s.size, by omega, by omega, by omega, by go_num, by go_num⟩
              case measure => simp [intOf]; omega
          · clear hk
            go_wp2
            go_ret
            first | exact ⟨.inl rfl, rfl⟩ | exact ⟨.inr rfl, rfl⟩ | exact ⟨_, rfl, rfl⟩

set_option maxHeartbeats 400000 in
/-- The guard of the second law: some bool, nothing turned. -/
theorem guard3 (po ao bo : Option Addr) (lp cp la ca lb cb : Nat) (P A B : List ByteArray) (w : World) (hP : StrRow w po lp P) (hA : StrRow w ao la A) (hB : StrRow w bo lb B) :
    Calls Try.prog 9 #[.slice po lp cp, .slice ao la ca, .slice bo lb cb] w fun e w' => ∃ r : Bool, e = .returned (.bool r) ∧ w' = w := by
  by_cases h1 : 1048576 < lp
  · go_enter Try.func9, Try.ntmps9
    go_wp2
    go_ret
    first | exact ⟨.inl rfl, rfl⟩ | exact ⟨.inr rfl, rfl⟩ | exact ⟨_, rfl, rfl⟩
  go_enter Try.func9, Try.ntmps9
  go_wp2
  go_loop [7, 8] (fun z i => ∃ (k : Nat) (r : Int), k ≤ lp ∧ 0 ≤ r ∧ r ≤ 1048576 ∧ i = .int .i64 k ∧ z = .int .i64 r) (fun _ i => lp - (intOf i).toNat)
  case atStart => exact ⟨0, lp, Nat.zero_le _, by omega, by omega, rfl, by go_num⟩
  case round =>
    obtain ⟨k, r, hk, hr0, hr1, rfl, rfl⟩ := hrel
    by_cases hlt : k < lp
    · obtain ⟨_, h | ⟨b, off, rfl, hc⟩⟩ := hP
      · omega
      have hcell := hc k hlt
      generalize P.getD k ByteArray.empty = s at hcell
      clear hc
      go_wp2
      · go_ret
        first | exact ⟨.inl rfl, rfl⟩ | exact ⟨.inr rfl, rfl⟩ | exact ⟨_, rfl, rfl⟩
      · go_ret
        first | exact ⟨.inl rfl, rfl⟩ | exact ⟨.inr rfl, rfl⟩ | exact ⟨_, rfl, rfl⟩
      · go_round
        case rel => exact ⟨k + 1, r + s.size, by omega, by omega, by omega, by go_num, by go_num⟩
        case measure => simp [intOf]; omega
    · clear hk
      go_wp2
      · go_ret
        first | exact ⟨.inl rfl, rfl⟩ | exact ⟨.inr rfl, rfl⟩ | exact ⟨_, rfl, rfl⟩
      · go_ret
        first | exact ⟨.inl rfl, rfl⟩ | exact ⟨.inr rfl, rfl⟩ | exact ⟨_, rfl, rfl⟩
      · go_loop [7, 9] (fun z i => ∃ (k : Nat) (r : Int), k ≤ la ∧ 0 ≤ r ∧ r ≤ 1048576 ∧ i = .int .i64 k ∧ z = .int .i64 r) (fun _ i => la - (intOf i).toNat)
        case atStart => exact ⟨0, r + la, Nat.zero_le _, by omega, by omega, rfl, by go_num⟩
        case round =>
          obtain ⟨k, r, hk, hr0, hr1, rfl, rfl⟩ := hrel
          by_cases hlt : k < la
          · obtain ⟨_, h | ⟨b, off, rfl, hc⟩⟩ := hA
            · omega
            have hcell := hc k hlt
            generalize A.getD k ByteArray.empty = s at hcell
            clear hc
            go_wp2
            · go_ret
              first | exact ⟨.inl rfl, rfl⟩ | exact ⟨.inr rfl, rfl⟩ | exact ⟨_, rfl, rfl⟩
            · go_ret
              first | exact ⟨.inl rfl, rfl⟩ | exact ⟨.inr rfl, rfl⟩ | exact ⟨_, rfl, rfl⟩
            · go_round
              case rel => exact ⟨k + 1, r + s.size, by omega, by omega, by omega, by go_num, by go_num⟩
              case measure => simp [intOf]; omega
          · clear hk
            go_wp2
            · go_ret
              first | exact ⟨.inl rfl, rfl⟩ | exact ⟨.inr rfl, rfl⟩ | exact ⟨_, rfl, rfl⟩
            · go_ret
              first | exact ⟨.inl rfl, rfl⟩ | exact ⟨.inr rfl, rfl⟩ | exact ⟨_, rfl, rfl⟩
            · go_loop [7, 10] (fun z i => ∃ (k : Nat) (r : Int), k ≤ lb ∧ 0 ≤ r ∧ r ≤ 1048576 ∧ i = .int .i64 k ∧ z = .int .i64 r) (fun _ i => lb - (intOf i).toNat)
              case atStart => exact ⟨0, r + lb, Nat.zero_le _, by omega, by omega, rfl, by go_num⟩
              case round =>
                obtain ⟨k, r, hk, hr0, hr1, rfl, rfl⟩ := hrel
                by_cases hlt : k < lb
                · obtain ⟨_, h | ⟨b, off, rfl, hc⟩⟩ := hB
                  · omega
                  have hcell := hc k hlt
                  generalize B.getD k ByteArray.empty = s at hcell
                  clear hc
                  go_wp2
                  · go_ret
                    first | exact ⟨.inl rfl, rfl⟩ | exact ⟨.inr rfl, rfl⟩ | exact ⟨_, rfl, rfl⟩
                  · go_ret
                    first | exact ⟨.inl rfl, rfl⟩ | exact ⟨.inr rfl, rfl⟩ | exact ⟨_, rfl, rfl⟩
                  · go_round
                    case rel => exact ⟨k + 1, r + s.size, by omega, by omega, by omega, by go_num, by go_num⟩
                    case measure => simp [intOf]; omega
                · clear hk
                  go_wp2
                  go_ret
                  first | exact ⟨.inl rfl, rfl⟩ | exact ⟨.inr rfl, rfl⟩ | exact ⟨_, rfl, rfl⟩
end Go.Proofs.Qxb6618347a
