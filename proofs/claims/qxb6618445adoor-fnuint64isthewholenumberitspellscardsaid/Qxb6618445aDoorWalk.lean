/-
  The plain arithmetic, and the walks of the law's own helpers (4, 5, 9, 6).
-/
import Derived.Test.Qxb6618445aDoorProg
import Derived.WalkKit
import Derived.WalkSpells
import Derived.WalkLawsBesides
import Derived.KernelRfl
import Derived.RegionTactic
import Derived.BigRegion
import Derived.Deep.QuietTactic
import Derived.BigQuiet
import Derived.Deep.DeepCutAuto
import Derived.Deep.CutBlock
import Derived.Lib.ParseIntBCases
namespace Go.Proofs.Qxb6618445aDoor
open Go.RowKit

/-! ### Plain -/
/-- v * 10 + d, saturating. -/
def tt (v d : Nat) : Nat × Bool := if 1844674407370955161 < v then (18446744073709551615, true) else if 18446744073709551615 < v * 10 + d then (18446744073709551615, true) else (v * 10 + d, false)
def st (p : Nat × Bool) (d : Nat) : Nat × Bool := if p.2 then p else tt p.1 d
def RUN (p : Nat × Bool) (l : List Nat) : Nat × Bool := l.foldl st p
def digs (l : List UInt8) : List Nat := l.map fun c => c.toNat - 48
def Digits (l : List UInt8) : Prop := ∀ c ∈ l, 48 ≤ c.toNat ∧ c.toNat ≤ 57
/-- What the number is. -/
def WV (neg : Bool) (l : List UInt8) (exp : Int) : Nat × Bool :=
  if l = [] then (0, true) else if neg then (0, false) else if exp < 0 then (0, false) else if 20 < (l.length : Int) + exp then (0, false) else
    if (RUN (0, false) (digs l ++ List.replicate exp.toNat 0)).2 then (18446744073709551615, false) else ((RUN (0, false) (digs l ++ List.replicate exp.toNat 0)).1, true)

theorem tt_le (v d : Nat) : (tt v d).1 ≤ 18446744073709551615 := by
  unfold tt
  split
  · exact Nat.le_refl _
  · split
    · exact Nat.le_refl _
    · simp only; omega
theorem st_le {p : Nat × Bool} (h : p.1 ≤ 18446744073709551615) (d : Nat) : (st p d).1 ≤ 18446744073709551615 := by
  unfold st
  split
  · exact h
  · exact tt_le _ _
theorem RUN_le : ∀ (l : List Nat) (p : Nat × Bool), p.1 ≤ 18446744073709551615 → (RUN p l).1 ≤ 18446744073709551615
  | [], _, h => h
  | d :: r, p, h => RUN_le r (st p d) (st_le h d)
theorem RUN_snoc (p : Nat × Bool) (l : List Nat) (d : Nat) : RUN p (l ++ [d]) = st (RUN p l) d := by simp [RUN]
theorem RUN_over : ∀ (l : List Nat) (p : Nat × Bool), p.2 = true → RUN p l = p
  | [], _, _ => rfl
  | d :: r, p, h => by
    have e : st p d = p := by unfold st; rw [if_pos h]
    show RUN (st p d) r = p
    rw [e]; exact RUN_over r p h

theorem parse_run : ∀ (l : List UInt8) (v : Nat), Digits l → Lib.parseUintM 18446744073709551615 v l = if (RUN (v, false) (digs l)).2 then .range else .ok (RUN (v, false) (digs l)).1
  | [], v, _ => by simp [Lib.parseUintM, RUN, digs]
  | c :: r, v, h => by
    have hc := h c (by simp)
    have hr : Digits r := fun x hx => h x (by simp [hx])
    have e : RUN (v, false) (digs (c :: r)) = RUN (tt v (c.toNat - 48)) (digs r) := rfl
    rw [e]
    simp only [Lib.parseUintM, if_pos hc]
    by_cases h1 : 1844674407370955162 ≤ v
    · have e1 : tt v (c.toNat - 48) = (18446744073709551615, true) := by unfold tt; rw [if_pos (by omega)]
      rw [if_pos h1, e1, RUN_over _ _ rfl]
      rfl
    · rw [if_neg h1]
      by_cases h2 : 18446744073709551615 < v * 10 + (c.toNat - 48)
      · have e1 : tt v (c.toNat - 48) = (18446744073709551615, true) := by unfold tt; rw [if_neg (by omega), if_pos h2]
        rw [if_pos h2, e1, RUN_over _ _ rfl]
        rfl
      · have e1 : tt v (c.toNat - 48) = (v * 10 + (c.toNat - 48), false) := by unfold tt; rw [if_neg (by omega), if_neg h2]
        rw [if_neg h2, e1]
        exact parse_run r _ hr

/-! ### Walks -/
theorem hid {p : Prop} (h : p) : Hid p := h
theorem u64_id {x : Int} (h1 : 0 ≤ x) (h2 : x < 18446744073709551616) : IntKind.u64.wrap x = x := by
  unfold IntKind.wrap
  simp [IntKind.bits, IntKind.signed]
  omega
theorem idx (s : ByteArray) (i : Int) (k : Nat) (hz : i = k) (hk : k < s.size) (w : World) : (Instr.index 9 (.string s) (.int .i64 i)).run Tryd.prog w = .ok (.int .u8 ((s.data.toList.getD k 0).toNat : Int)) w := by
  subst hz
  rw [run_index_string w 9 s .i64 _ Tryd.underlying9, dif_pos ⟨by omega, by omega⟩]
  have e : ((k : Int)).toNat = k := by omega
  simp only [e]
  have h' : k < s.data.toList.length := by simpa using hk
  rw [List.getD, List.getElem?_eq_getElem h']
  simp
  rfl

set_option maxHeartbeats 400000 in
theorem guard_any (neg : Bool) (s : ByteArray) (exp : Int) (w : World) : Calls Tryd.prog 4 #[.bool neg, .string s, .int .i64 exp] w fun e w' => ∃ v, e = .returned (.bool v) ∧ w' = w := by
  by_cases h : 1048576 < (s.size : Int)
  · go_enter Tryd.func4, Tryd.ntmps4
    go_wp2
    go_ret
    exact ⟨_, rfl, rfl⟩
  · go_enter Tryd.func4, Tryd.ntmps4
    go_wp2
    go_ret
    exact ⟨.inr rfl, rfl⟩

set_option maxHeartbeats 400000 in
theorem times_any (v d : Nat) (w : World) (hv : v ≤ 18446744073709551615) (hd : d ≤ 9) : Calls Tryd.prog 9 #[.int .u64 v, .int .u64 d] w fun e w' => e = .returned (.tuple #[.int .u64 ((tt v d).1 : Int), .bool (tt v d).2]) ∧ w' = w := by
  by_cases h1 : 1844674407370955161 < v
  · have e : tt v d = (18446744073709551615, true) := by unfold tt; rw [if_pos h1]
    rw [e]
    have h1' : (1844674407370955161 : Int) < v := by omega
    go_enter Tryd.func9, Tryd.ntmps9
    go_wp2
    go_ret2
    exact ⟨rfl, rfl⟩
  · have h1' : ¬ (1844674407370955161 : Int) < v := by omega
    have w1 : IntKind.u64.wrap ((v : Int) * 10) = v * 10 := u64_id (by omega) (by omega)
    have w2 : IntKind.u64.wrap (18446744073709551615 - (d : Int)) = 18446744073709551615 - d := u64_id (by omega) (by omega)
    by_cases h2 : 18446744073709551615 < v * 10 + d
    · have e : tt v d = (18446744073709551615, true) := by unfold tt; rw [if_neg h1, if_pos h2]
      rw [e]
      have h2' : 18446744073709551615 - (d : Int) < v * 10 := by omega
      go_enter Tryd.func9, Tryd.ntmps9
      go_wp2
      go_ret2
      exact ⟨rfl, rfl⟩
    · have e : tt v d = (v * 10 + d, false) := by unfold tt; rw [if_neg h1, if_neg h2]
      rw [e]
      have h2' : ¬ 18446744073709551615 - (d : Int) < v * 10 := by omega
      have w3 : IntKind.u64.wrap ((v : Int) * 10 + d) = v * 10 + d := u64_id (by omega) (by omega)
      go_enter Tryd.func9, Tryd.ntmps9
      go_wp2
      go_ret2
      exact ⟨by simp, rfl⟩

theorem mem_getD {l : List UInt8} {k : Nat} (hk : k < l.length) : l.getD k 0 ∈ l := by
  rw [List.getD_eq_getElem?_getD, List.getElem?_eq_getElem hk]
  exact List.getElem_mem hk
theorem digits_of {l : List UInt8} (h : ∀ j, j < l.length → 48 ≤ (l.getD j 0).toNat ∧ (l.getD j 0).toNat ≤ 57) : Digits l := by
  intro c hc
  obtain ⟨j, hj, rfl⟩ := List.getElem_of_mem hc
  have := h j hj
  simpa [List.getD_eq_getElem?_getD, List.getElem?_eq_getElem hj] using this

def CanonPost (s : ByteArray) (w : World) (e : Ending) (w' : World) : Prop := ∃ v, e = .returned (.bool v) ∧ (v = true → Digits s.data.toList) ∧ w' = w
theorem canonPost (s : ByteArray) (w : World) (v : Bool) (h : v = true → Digits s.data.toList) : CanonPost s w (.returned (.bool v)) w := ⟨v, rfl, h, rfl⟩
set_option maxHeartbeats 1000000 in
/-- zzCanonicalDigits: true only of decimal digits. -/
theorem canon_any (s : ByteArray) (w : World) (hs : s.size ≤ 1048576) : Calls Tryd.prog 5 #[.string s] w fun e w' => CanonPost s w e w' := by
  have hlen : s.data.toList.length = s.size := by simp
  go_enter Tryd.func5, Tryd.ntmps5
  go_wp2
  go_loopw [3] (fun i wr => ∃ k : Nat, k ≤ s.size ∧ i = .int .i64 k ∧ Hid (∀ j, j < k → 48 ≤ (s.data.toList.getD j 0).toNat ∧ (s.data.toList.getD j 0).toNat ≤ 57) ∧ wr = w) (fun i _ => s.size - (intOf i).toNat)
  case atStart => exact ⟨0, Nat.zero_le _, rfl, fun j hj => by omega, rfl⟩
  case round =>
    obtain ⟨k, hk, rfl, hall, rfl⟩ := hrel
    by_cases hlt : k < s.size
    · have hi : ∀ W, (Instr.index 9 (.string s) (.int .i64 (k : Int))).run Tryd.prog W = .ok (.int .u8 ((s.data.toList.getD k 0).toNat : Int)) W := fun W => idx s _ k rfl hlt W
      have HN : Hid (48 ≤ (s.data.toList.getD k 0).toNat ∧ (s.data.toList.getD k 0).toNat ≤ 57 → ∀ j, j < k + 1 → 48 ≤ (s.data.toList.getD j 0).toNat ∧ (s.data.toList.getD j 0).toNat ≤ 57) := fun h j hj => by
        by_cases e : j = k
        · subst e; exact h
        · exact hall.out j (by omega)
      generalize (s.data.toList.getD k 0).toNat = b at hi HN
      by_cases h1 : (b : Int) < 48
      · go_wp2
        go_ret
        exact canonPost _ _ _ (by simp)
      · by_cases h2 : 57 < (b : Int)
        · go_wp2
          go_ret
          exact canonPost _ _ _ (by simp)
        · have HA := HN.out ⟨by omega, by omega⟩
          have HA' : Hid (∀ j, j < k + 1 → 48 ≤ (s.data.toList.getD j 0).toNat ∧ (s.data.toList.getD j 0).toNat ≤ 57) := HA
          clear HA
          go_wp2
          go_roundw
          case rel => exact ⟨k + 1, by omega, by go_num, HA', trivial⟩
          case measure => simp [intOf]; omega
    · have hks : k = s.size := by omega
      have HD : Hid (Digits s.data.toList) := digits_of fun j hj => hall.out j (by omega)
      by_cases h0 : (0 : Int) < s.size
      · have hi0 : ∀ W, (Instr.index 9 (.string s) (.int .i64 0)).run Tryd.prog W = .ok (.int .u8 ((s.data.toList.getD 0 0).toNat : Int)) W := fun W => idx s _ 0 rfl (by omega) W
        have hi1 : ∀ W, (Instr.index 9 (.string s) (.int .i64 ((s.size : Int) - 1))).run Tryd.prog W = .ok (.int .u8 ((s.data.toList.getD (s.size - 1) 0).toNat : Int)) W := fun W => idx s _ (s.size - 1) (by omega) (by omega) W
        generalize ((s.data.toList.getD 0 0).toNat : Int) = b0 at hi0
        generalize ((s.data.toList.getD (s.size - 1) 0).toNat : Int) = b1 at hi1
        clear hks hlen hall
        by_cases h1 : b0 = 48
        · subst h1
          go_wp2
          go_ret
          exact canonPost _ _ _ (by simp)
        · have h1' : (b0 == 48) = false := by simpa using h1
          by_cases h2 : b1 = 48
          · subst h2
            go_wp2
            go_ret
            exact canonPost _ _ _ (by simp)
          · have h2' : (b1 == 48) = false := by simpa using h2
            go_wp2
            go_ret
            exact canonPost _ _ _ (fun _ => HD.out)
      · clear hks hlen hall
        go_wp2
        go_ret
        exact canonPost _ _ _ (fun _ => HD.out)
end Go.Proofs.Qxb6618445aDoor
