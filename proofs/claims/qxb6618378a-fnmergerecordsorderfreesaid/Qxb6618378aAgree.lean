/-
  Walk of zzAgreeOnOverlap (6).
-/
import Derived.Test.Qxb6618378aBase
namespace Go.Proofs.Qxb6618378a
open Go.RowKit

theorem u64_id {x : Int} (h1 : 0 ≤ x) (h2 : x < 18446744073709551616) : IntKind.u64.wrap x = x := by
  unfold IntKind.wrap
  simp [IntKind.bits, IntKind.signed]
  omega

/-- A number that a record counts: at most 2^63 by the law's own test. -/
def Small (x : Int) : Prop := 0 ≤ x ∧ x ≤ 9223372036854775808

theorem Small.nonneg {x : Int} (h : Small x) : 0 ≤ x := h.1
theorem wrap_add {x : Int} (h : Small x) {y : Int} (h0 : 0 ≤ y) (h1 : y ≤ 1048576) : IntKind.u64.wrap (x + y) = x + y := by
  obtain ⟨a, b⟩ := h
  exact u64_id (by omega) (by omega)

theorem quiet_add {P : Program} {f : FuncId} {args : Array Value} {w : World} {q n : Nat} {v : Value}
    (h : Calls P f args (w.drewN (q + n)) fun e w' => e = .returned v ∧ ∃ m, w' = (w.drewN (q + n)).drewN m) : Calls P f args (w.drewN (q + n)) fun e w'' => e = .returned v ∧ ∃ m, w'' = w.drewN (q + m) :=
  h.mono fun _ _ ⟨he, m, hm⟩ => ⟨he, n + m, by rw [hm, World.drewN_drewN, Nat.add_assoc]⟩

set_option maxHeartbeats 1000000 in
set_option maxRecDepth 100000 in
theorem agree_any (xc yc : Int) (xo yo : Option Addr) (n m cx cy : Nat) (X Y : List (List (Int × Int))) (w : World) (hX : Rows2 w xo n X) (hY : Rows2 w yo m Y) (hn : n ≤ 65536) (hm : m ≤ 65536) (sx : Small xc) (sy : Small yc)
    (lX : ∀ j, j < n → (X.getD j []).length ≤ 65536) (lY : ∀ j, j < m → (Y.getD j []).length ≤ 65536) :
    Calls Try.prog 6 #[.int .u64 xc, .slice xo n cx, .int .u64 yc, .slice yo m cy] w fun e w' => ∃ v : Value, e = .returned v ∧
      (v = .bool false ∨ (v = .bool true ∧ ∀ t : Int, max xc yc ≤ t → t < min (xc + n) (yc + m) → X.getD (t - xc).toNat [] = Y.getD (t - yc).toNat [])) ∧ ∃ q, w' = w.drewN q := by
  have HX : Hid (Rows2 w xo n X) := hX
  have HY : Hid (Rows2 w yo m Y) := hY
  have HLX : Hid (∀ j, j < n → (X.getD j []).length ≤ 65536) := lX
  have HLY : Hid (∀ j, j < m → (Y.getD j []).length ≤ 65536) := lY
  clear hX hY lX lY
  have x0 := sx.nonneg
  have y0 := sy.nonneg
  have w1 : IntKind.u64.wrap (n : Int) = n := u64_id (by omega) (by omega)
  have w2 : IntKind.u64.wrap (m : Int) = m := u64_id (by omega) (by omega)
  have w3 : IntKind.u64.wrap (xc + n) = xc + n := wrap_add sx (by omega) (by omega)
  have w4 : IntKind.u64.wrap (yc + m) = yc + m := wrap_add sy (by omega) (by omega)
  go_enter Try.func6, Try.ntmps6
  go_wp2_with (first | (go_at_call 9; refine (greater_any xc yc _).mono ?_; rintro e w' ⟨rfl, rfl⟩) | (go_at_call 12; refine (lesser_any _ _ _).mono ?_; rintro e w' ⟨rfl, rfl⟩))
  obtain ⟨lo, hlo⟩ : ∃ lo, max xc yc = lo := ⟨_, rfl⟩
  obtain ⟨hi, hhi⟩ : ∃ hi, min (xc + n) (yc + m) = hi := ⟨_, rfl⟩
  have b1 : xc ≤ lo := by omega
  have b2 : yc ≤ lo := by omega
  have b3 : hi ≤ xc + n := by omega
  have b4 : hi ≤ yc + m := by omega
  have sl : Small lo := by
    obtain ⟨a1, a2⟩ := sx
    obtain ⟨a3, a4⟩ := sy
    exact ⟨by omega, by omega⟩
  have HLO : Hid (max xc yc = lo) := hlo
  have HHI : Hid (min (xc + n) (yc + m) = hi) := hhi
  rw [hlo, hhi]
  clear hlo hhi w1 w2 w3 w4
  have v2 : IntKind.u64.wrap (lo + 1) = lo + 1 := wrap_add sl (by omega) (by omega)
  go_loopw [11] (fun i wr => ∃ k q : Nat, i = .int .u64 k ∧ k ≤ 65536 ∧ Hid (∀ t : Int, lo ≤ t → t < lo + k → X.getD (t - xc).toNat [] = Y.getD (t - yc).toNat []) ∧ wr = w'.drewN q) (fun i _ => (hi - lo - intOf i).toNat)
  case atStart => exact ⟨0, 0, rfl, by omega, fun t h1 h2 => by omega, rfl⟩
  case round =>
    obtain ⟨k, q, rfl, hk, hsame, rfl⟩ := hrel
    have v1 : IntKind.u64.wrap (lo + k) = lo + k := wrap_add sl (by omega) (by omega)
    by_cases hlt : lo + k < hi
    · have v3 : IntKind.u64.wrap (lo + 1 + k) = lo + 1 + k := by rw [show lo + 1 + (k : Int) = lo + ((k : Int) + 1) by omega]; exact wrap_add sl (by omega) (by omega)
      have v4 : IntKind.u64.wrap (lo + 1 + k - xc) = lo + 1 + k - xc := u64_id (by omega) (by omega)
      have v6 : IntKind.u64.wrap (lo + 1 + k - yc) = lo + 1 + k - yc := u64_id (by omega) (by omega)
      have v8 : IntKind.u64.wrap ((k : Int) + 1) = (k : Int) + 1 := u64_id (by omega) (by omega)
      obtain ⟨p1, hp1⟩ : ∃ p : Nat, lo + 1 + k - xc - 1 = (p : Int) := ⟨(lo + 1 + k - xc - 1).toNat, by omega⟩
      obtain ⟨p2, hp2⟩ : ∃ p : Nat, lo + 1 + k - yc - 1 = (p : Int) := ⟨(lo + 1 + k - yc - 1).toNat, by omega⟩
      have v5 : IntKind.u64.wrap (lo + 1 + k - xc - 1) = p1 := by rw [u64_id (by omega) (by omega)]; exact hp1
      have v7 : IntKind.u64.wrap (lo + 1 + k - yc - 1) = p2 := by rw [u64_id (by omega) (by omega)]; exact hp2
      have l1' : p1 < n := by omega
      have l2' : p2 < m := by omega
      obtain ⟨_, h | ⟨b, off, rfl, hc⟩⟩ := HX.out
      · omega
      obtain ⟨_, h | ⟨b', off', rfl, hc'⟩⟩ := HY.out
      · omega
      obtain ⟨ao, l1, c1, z1, T1⟩ := hc p1 l1'
      obtain ⟨bo, l2, c2, z2, T2⟩ := hc' p2 l2'
      have n1 : l1 ≤ 65536 := by rw [← T1.1]; exact HLX.out _ (by omega)
      have n2 : l2 ≤ 65536 := by rw [← T2.1]; exact HLY.out _ (by omega)
      have HT1 : Hid (∀ q, TagRow (w'.drewN q) ao l1 (X.getD p1 [])) := fun q => T1.later (below_drewN' (Below.refl _ _) q)
      have HT2 : Hid (∀ q, TagRow (w'.drewN q) bo l2 (Y.getD p2 [])) := fun q => T2.later (below_drewN' (Below.refl _ _) q)
      clear hc hc' T1 T2
      have HP1 : Hid (lo + 1 + k - xc - 1 = (p1 : Int)) := hp1
      have HP2 : Hid (lo + 1 + k - yc - 1 = (p2 : Int)) := hp2
      clear hp1 hp2
      by_cases he : X.getD p1 [] = Y.getD p2 []
      · have hd : decide (X.getD p1 [] = Y.getD p2 []) = true := decide_eq_true he
        have HN : Hid (∀ t : Int, lo ≤ t → t < lo + (k + 1 : Nat) → X.getD (t - xc).toNat [] = Y.getD (t - yc).toNat []) := fun t h1 h2 => by
          by_cases e : t = lo + k
          · subst e
            have e1 := HP1.out
            have e2 := HP2.out
            rw [show (lo + (k : Int) - xc).toNat = p1 by omega, show (lo + (k : Int) - yc).toNat = p2 by omega]; exact he
          · exact hsame.out t h1 (by omega)
        clear he
        generalize X.getD p1 [] = S at hd HT1
        generalize Y.getD p2 [] = T at hd HT2
        go_wp2
        go_quiet ((go_at_call 13; refine quiet_add (v := .bool (decide (S = T))) ?_; exact same_own ao bo l1 l2 c1 c2 S T _ (HT1.out _) (HT2.out _) (by omega) (by omega)))
        go_wp2
        go_roundw
        case rel => exact ⟨k + 1, _, rfl, by omega, HN, rfl⟩
        case measure => simp [intOf]; omega
      · have hd : decide (X.getD p1 [] = Y.getD p2 []) = false := decide_eq_false he
        clear he
        generalize X.getD p1 [] = S at hd HT1
        generalize Y.getD p2 [] = T at hd HT2
        go_wp2
        go_quiet ((go_at_call 13; refine quiet_add (v := .bool (decide (S = T))) ?_; exact same_own ao bo l1 l2 c1 c2 S T _ (HT1.out _) (HT2.out _) (by omega) (by omega)))
        go_wp2
        go_ret
        exact ⟨_, rfl, .inl rfl, q + nq, by rw [World.drewN_drewN]⟩
    · go_wp2
      go_ret
      have e1 := HLO.out
      have e2 := HHI.out
      refine ⟨_, rfl, .inr ⟨rfl, fun t h1 h2 => hsame.out t (by omega) (by omega)⟩, _, rfl⟩
end Go.Proofs.Qxb6618378a
