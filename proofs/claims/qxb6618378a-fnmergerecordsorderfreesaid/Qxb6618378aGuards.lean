/-
  Walks of the two guards (4, 5).
-/
import Derived.Test.Qxb6618378aBase
namespace Go.Proofs.Qxb6618378a
open Go.RowKit

set_option maxHeartbeats 1000000 in
set_option maxRecDepth 100000 in
theorem guard_any (r xa xc xs ya yc ys : Int) (xo yo : Option Addr) (n m cx cy : Nat) (X Y : List (List (Int × Int))) (w : World) (hX : Rows2 w xo n X) (hY : Rows2 w yo m Y) :
    Calls Try.prog 4 #[.int .u64 r, .int .u64 xa, .int .u64 xc, .int .u64 xs, .slice xo n cx, .int .u64 ya, .int .u64 yc, .int .u64 ys, .slice yo m cy] w fun e w' => ∃ v : Value, e = .returned v ∧ (v = .bool true ∨ v = .bool false) ∧ w' = w := by
  by_cases h1 : 1048576 < n
  · go_enter Try.func4, Try.ntmps4
    go_wp2
    go_ret
    exact ⟨_, rfl, .inr rfl, rfl⟩
  go_enter Try.func4, Try.ntmps4
  go_wp2
  go_loop [19, 20] (fun z i => ∃ (k : Nat) (r : Int), k ≤ n ∧ 0 ≤ r ∧ r ≤ 1048576 ∧ i = .int .i64 k ∧ z = .int .i64 r) (fun _ i => n - (intOf i).toNat)
  case atStart => exact ⟨0, n, Nat.zero_le _, by omega, by omega, rfl, rfl⟩
  case round =>
    obtain ⟨k, r, hk, hr0, hr1, rfl, rfl⟩ := hrel
    by_cases hlt : k < n
    · obtain ⟨_, h | ⟨b, off, rfl, hc⟩⟩ := hX
      · omega
      obtain ⟨ao, l, c, z, -⟩ := hc k hlt
      clear hc
      go_wp2
      · go_ret
        exact ⟨_, rfl, .inr rfl, rfl⟩
      · go_ret
        exact ⟨_, rfl, .inr rfl, rfl⟩
      · go_round
        case rel => exact ⟨k + 1, r + l, by omega, by omega, by omega, by go_num, by go_num⟩
        case measure => simp [intOf]; omega
    · clear hk
      go_wp2
      · go_ret
        exact ⟨_, rfl, .inr rfl, rfl⟩
      · go_ret
        exact ⟨_, rfl, .inr rfl, rfl⟩
      · go_loop [19, 21] (fun z i => ∃ (k : Nat) (r : Int), k ≤ m ∧ 0 ≤ r ∧ r ≤ 1048576 ∧ i = .int .i64 k ∧ z = .int .i64 r) (fun _ i => m - (intOf i).toNat)
        case atStart => exact ⟨0, r + m, Nat.zero_le _, by omega, by omega, rfl, by go_num⟩
        case round =>
          obtain ⟨k, r, hk, hr0, hr1, rfl, rfl⟩ := hrel
          by_cases hlt : k < m
          · obtain ⟨_, h | ⟨b, off, rfl, hc⟩⟩ := hY
            · omega
            obtain ⟨ao, l, c, z, -⟩ := hc k hlt
            clear hc
            go_wp2
            · go_ret
              exact ⟨_, rfl, .inr rfl, rfl⟩
            · go_ret
              exact ⟨_, rfl, .inr rfl, rfl⟩
            · go_round
              case rel => exact ⟨k + 1, r + l, by omega, by omega, by omega, by go_num, by go_num⟩
              case measure => simp [intOf]; omega
          · clear hk
            go_wp2
            go_ret
            exact ⟨_, rfl, .inl rfl, rfl⟩

set_option maxHeartbeats 1000000 in
set_option maxRecDepth 100000 in
theorem big_any (xo yo : Option Addr) (n m cx cy : Nat) (X Y : List (List (Int × Int))) (w : World) (hX : Rows2 w xo n X) (hY : Rows2 w yo m Y) :
    Calls Try.prog 5 #[.slice xo n cx, .slice yo m cy, .slice none 0 0] w fun e w' => ∃ v : Value, e = .returned v ∧
      (v = .bool true ∨ (v = .bool false ∧ n ≤ 65536 ∧ m ≤ 65536 ∧ (∀ j, j < n → (X.getD j []).length ≤ 65536) ∧ ∀ j, j < m → (Y.getD j []).length ≤ 65536)) ∧ w' = w := by
  have HX : Hid (Rows2 w xo n X) := hX
  have HY : Hid (Rows2 w yo m Y) := hY
  clear hX hY
  by_cases h1 : 65536 < n
  · have hb : decide ((65536 : Int) < (n : Int)) = true := decide_eq_true (by omega)
    go_enter Try.func5, Try.ntmps5
    go_wp2
    go_ret
    exact ⟨_, rfl, .inl rfl, rfl⟩
  by_cases h2 : 65536 < m
  · go_enter Try.func5, Try.ntmps5
    go_wp2
    go_ret
    exact ⟨_, rfl, .inl rfl, rfl⟩
  go_enter Try.func5, Try.ntmps5
  go_wp2
  go_loop [7, 8] (fun z i => ∃ (k : Nat) (r : Int), k ≤ n ∧ i = .int .i64 k ∧ z = .int .u64 r ∧ Hid (∀ j, j < k → (X.getD j []).length ≤ 65536)) (fun _ i => n - (intOf i).toNat)
  case atStart => exact ⟨0, _, Nat.zero_le _, rfl, rfl, fun j hj => by omega⟩
  case round =>
    obtain ⟨k, r, hk, rfl, rfl, hsm⟩ := hrel
    by_cases hlt : k < n
    · obtain ⟨_, h | ⟨b, off, rfl, hc⟩⟩ := HX.out
      · omega
      obtain ⟨ao, l, c, z, hT⟩ := hc k hlt
      have hl := hT.1
      by_cases hbig : 65536 < l
      · clear hc hT hl
        go_wp2
        go_ret
        exact ⟨_, rfl, .inl rfl, rfl⟩
      have HN : Hid (∀ j, j < k + 1 → (X.getD j []).length ≤ 65536) := fun j hj => by
        by_cases e : j = k
        · subst e; omega
        · exact hsm.out j (by omega)
      clear hc hT hl
      go_wp2
      · go_ret
        exact ⟨_, rfl, .inl rfl, rfl⟩
      · go_round
        case rel => exact ⟨k + 1, _, by omega, by go_num, rfl, HN⟩
        case measure => simp [intOf]; omega
    · have HN : Hid (∀ j, j < n → (X.getD j []).length ≤ 65536) := fun j hj => hsm.out j (by omega)
      clear hk hsm
      go_wp2
      have HX1 : Hid (∀ j, j < n → (X.getD j []).length ≤ 65536) := HN
      clear HN
      go_loop [7, 9] (fun z i => ∃ (k : Nat) (r : Int), k ≤ m ∧ i = .int .i64 k ∧ z = .int .u64 r ∧ Hid (∀ j, j < k → (Y.getD j []).length ≤ 65536)) (fun _ i => m - (intOf i).toNat)
      case atStart => exact ⟨0, _, Nat.zero_le _, rfl, rfl, fun j hj => by omega⟩
      case round =>
        obtain ⟨k, r, hk, rfl, rfl, hsm⟩ := hrel
        by_cases hlt : k < m
        · obtain ⟨_, h | ⟨b, off, rfl, hc⟩⟩ := HY.out
          · omega
          obtain ⟨ao, l, c, z, hT⟩ := hc k hlt
          have hl := hT.1
          by_cases hbig : 65536 < l
          · clear hc hT hl
            go_wp2
            go_ret
            exact ⟨_, rfl, .inl rfl, rfl⟩
          have HN : Hid (∀ j, j < k + 1 → (Y.getD j []).length ≤ 65536) := fun j hj => by
            by_cases e : j = k
            · subst e; omega
            · exact hsm.out j (by omega)
          clear hc hT hl
          go_wp2
          · go_ret
            exact ⟨_, rfl, .inl rfl, rfl⟩
          · go_round
            case rel => exact ⟨k + 1, _, by omega, by go_num, rfl, HN⟩
            case measure => simp [intOf]; omega
        · have HN : Hid (∀ j, j < m → (Y.getD j []).length ≤ 65536) := fun j hj => hsm.out j (by omega)
          clear hk hsm
          go_wp2
          go_ret
          exact ⟨_, rfl, .inr ⟨rfl, by omega, by omega, HX1.out, HN.out⟩, rfl⟩
end Go.Proofs.Qxb6618378a
