/-
  Walks of the library's three functions at []batch, and of the closure.
-/
import Derived.Test.Qxb6618350aBase
import Derived.Deep.RegionLaw
namespace Go.Proofs.Qxb6618350a
open Go.RowKit

set_option maxHeartbeats 400000 in
theorem clos_any (k n c : Int) (bc : Nat) (w : World) (hc : w.cell? ⟨bc, 0, none⟩ = some (.int .i64 c)) :
    Calls Try.prog 14 #[.agg #[.int .i64 k, .int .i64 n], .pointer (some ⟨bc, 0, none⟩)] w fun e w' => e = .returned (.bool (k == c)) ∧ Below w.heap.size w w' := by
  have hlt : bc < w.heap.size := World.block_lt_of_cell? w _ hc
  go_enter Try.func14, Try.ntmps14
  go_wp2
  go_ret
  exact ⟨rfl, (Below.refl _ _).alloc (Nat.le_refl _) _⟩

set_option maxHeartbeats 1000000 in
set_option maxRecDepth 100000 in
theorem index_any (R : List (Int × Int)) (base g n cap : Nat) (c : Int) (bc : Nat) (w : World) (h : w.ownsRow base 33 2 (.slice (some ⟨g, 0, none⟩) n cap) n (bcells R)) (hR : R.length = n) (hn : n ≤ 1048576) (hc : w.cell? ⟨bc, 0, none⟩ = some (.int .i64 c)) :
    Calls Try.prog 13 #[.slice (some ⟨g, 0, none⟩) n cap, .func (Fn.func 14) #[] #[.pointer (some ⟨bc, 0, none⟩)]] w fun e w' => ∃ r : Int, e = .returned (.int .i64 r) ∧ Below w.heap.size w w' ∧
      ((r = -1 ∧ ∀ j, j < n → (R.getD j (0, 0)).1 ≠ c) ∨ ∃ i : Nat, r = (i : Int) ∧ i < n ∧ (R.getD i (0, 0)).1 = c ∧ ∀ j, j < i → (R.getD j (0, 0)).1 ≠ c) := by
  have HO : Hid (w.ownsRow base 33 2 (.slice (some ⟨g, 0, none⟩) n cap) n (bcells R)) := h
  have HC : Hid (w.cell? ⟨bc, 0, none⟩ = some (.int .i64 c)) := hc
  have HR : Hid (R.length = n) := hR
  clear h hc hR
  go_enter Try.func13, Try.ntmps13
  go_wp2
  go_loopw [8] (fun i wr => ∃ k : Nat, k ≤ n ∧ i = .int .i64 k ∧ Hid (∀ j, j < k → (R.getD j (0, 0)).1 ≠ c) ∧ Below w.heap.size w wr) (fun i _ => n - (intOf i).toNat)
  case atStart => exact ⟨0, Nat.zero_le _, rfl, fun j hj => by omega, Below.refl _ _⟩
  case round =>
    obtain ⟨k, hk, rfl, hno, hb⟩ := hrel
    by_cases hlt : k < n
    · have hown := own_below HO.out hb
      obtain ⟨c1, c2⟩ := bcells_at R k (R.getD k (0, 0)) (by have := HR.out; simp [List.getD_eq_getElem?_getD, show k < R.length by omega])
      have z1 := (hown.cellAt (k * 2) (by omega)).trans c1
      have z2 := (hown.cellAt (k * 2 + 1) (by omega)).trans c2
      have hc' : wr.cell? ⟨bc, 0, none⟩ = some (.int .i64 c) := (hb.cell (p := ⟨bc, 0, none⟩) (World.block_lt_of_cell? w _ HC.out)).trans HC.out
      clear c1 c2 hown
      by_cases he : (R.getD k (0, 0)).1 = c
      · have HE : Hid ((R.getD k (0, 0)).1 = c) := he
        generalize (R.getD k (0, 0)).1 = x at z1 he
        generalize (R.getD k (0, 0)).2 = y at z2
        have hbb : (x == c) = true := by simpa using he
        clear he
        go_wp2_with (go_at_call 14; refine (clos_any x y c bc _ hc').mono ?_; rintro e w1 ⟨rfl, hb1⟩)
        go_ret
        exact ⟨k, rfl, hb.trans (hb1.mono hb.size), .inr ⟨k, rfl, hlt, HE.out, hno.out⟩⟩
      · have HN : Hid (∀ j, j < k + 1 → (R.getD j (0, 0)).1 ≠ c) := fun j hj => by
          by_cases e : j = k
          · subst e; exact he
          · exact hno.out j (by omega)
        generalize (R.getD k (0, 0)).1 = x at z1 he
        generalize (R.getD k (0, 0)).2 = y at z2
        have hbb : (x == c) = false := by simpa using he
        clear he
        go_wp2_with (go_at_call 14; refine (clos_any x y c bc _ hc').mono ?_; rintro e w1 ⟨rfl, hb1⟩)
        go_roundw
        case rel => exact ⟨k + 1, by omega, by go_num, HN, hb.trans (hb1.mono hb.size)⟩
        case measure => simp [intOf]; omega
    · go_wp2
      go_ret
      exact ⟨-1, rfl, hb, .inl ⟨rfl, fun j hj => hno.out j (by omega)⟩⟩

set_option maxHeartbeats 1000000 in
set_option maxRecDepth 100000 in
theorem clone_any (R : List (Int × Int)) (base g n cap : Nat) (w : World) (h : w.ownsRow base 33 2 (.slice (some ⟨g, 0, none⟩) n cap) n (bcells R)) (hn : n ≤ 1048576) :
    Calls Try.prog 15 #[.slice (some ⟨g, 0, none⟩) n cap] w fun e w' => ∃ v, e = .returned v ∧ w'.ownsRow w.heap.size 33 2 v n (bcells R) ∧ Below w.heap.size w w' := by
  obtain ⟨i33, hi, hz0, hz1, hz2⟩ := info_parts Try.info33
  have HO : Hid (w.ownsRow base 33 2 (.slice (some ⟨g, 0, none⟩) n cap) n (bcells R)) := h
  clear h
  have heq := fun (wx : World) => Lib.run_eql_slice_nil (P := Try.prog) wx 31 33 (some ⟨g, 0, none⟩) n cap 0 0 Try.underlying31
  have hg : g < w.heap.size := (HO.out.lt g rfl).2
  go_enter Try.func15, Try.ntmps15
  go_wp2_with (at_builtin; refine wpList_append_own _ rfl (.tmp 5) (.tmp 6) 31 rfl w.heap.size 33 i33 _ 2 16 Try.underlying31 hi hz0 hz1 hz2 rfl (by decide) _ 0 [] rfl (World.ownsRow_made w #[] 0 (Nat.le_refl _) (Nat.zero_le _) rfl) ⟨g, 0, none⟩ n cap (bcells R) rfl ?c1 ?c2 (bcells_one R) ?c3 ?c4 ?c5 ?_)
  case c1 => exact HO.out.1
  case c2 =>
    intro j u hj
    have hl := HO.out.1
    have hjn : j < n * 2 := by have := (List.getElem?_eq_some_iff.1 hj).1; omega
    have := (HO.out.alloc (.cells #[] 33)).cellAt j hjn
    rw [Addr.add_lit, Nat.zero_add, this]; exact hj
  case c3 => unfold maxLen; omega
  case c4 => omega
  case c5 => simp
  intro v' w1 hown hgr _
  have hb : Below w.heap.size w w1 := ((Below.refl _ w).alloc (Nat.le_refl _) (.cells #[] 33)).grown hgr (by simp) (by rintro k ⟨⟩; exact Nat.le_refl _)
  clear hgr
  go_wp2
  go_ret
  exact ⟨_, rfl, hown, hb⟩
end Go.Proofs.Qxb6618350a
