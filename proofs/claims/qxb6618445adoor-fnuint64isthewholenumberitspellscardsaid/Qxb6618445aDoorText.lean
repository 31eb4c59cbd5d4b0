/-
  Walks of ZZMake (7), wholeText (10).
-/
import Derived.Test.Qxb6618445aDoorWalk
import Derived.Test.Qxb6618445aDoorShelf
import Derived.Deep.RegionHeld3
namespace Go.Proofs.Qxb6618445aDoor
open Go.RowKit

theorem make_any (neg : Bool) (s : ByteArray) (exp : Int) (w : World) : Calls Tryd.prog 7 #[.bool neg, .string s, .int .i64 exp] w fun e w' => e = .returned (.agg #[.bool neg, .string s, .int .i64 exp]) ∧ Below w.heap.size w w' := by
  go_enter Tryd.func7, Tryd.ntmps7
  go_wp2
  exact bodyPost_ret (v := .agg #[.bool neg, .string s, .int .i64 exp]) (by simp [results, Tryd.results7, go_sem]) rfl ⟨rfl, (Below.refl _ _).alloc (Nat.le_refl _) _⟩

/-- What wholeText hands back. -/
def TextIs (neg : Bool) (s : ByteArray) (exp : Int) (t : ByteArray) (ok : Bool) : Prop :=
  (s.data.toList = [] ∧ t = ⟨#[48]⟩ ∧ ok = true) ∨ (s.data.toList ≠ [] ∧ (exp < 0 ∨ 20 < (s.size : Int) + exp) ∧ ok = false) ∨
  (s.data.toList ≠ [] ∧ ¬ exp < 0 ∧ ¬ 20 < (s.size : Int) + exp ∧ ok = true ∧ t.data.toList = (if neg then [45] else []) ++ (s.data.toList ++ List.replicate exp.toNat 48))
def TextPost (neg : Bool) (s : ByteArray) (exp : Int) (w : World) (e : Ending) (w' : World) : Prop := ∃ t ok, e = .returned (.tuple #[.string t, .bool ok]) ∧ TextIs neg s exp t ok ∧ Below w.heap.size w w'
theorem textPost {neg : Bool} {s : ByteArray} {exp : Int} {w w' : World} (t : ByteArray) (ok : Bool) (h : TextIs neg s exp t ok) (hb : Below w.heap.size w w') : TextPost neg s exp w (.returned (.tuple #[.string t, .bool ok])) w' := ⟨t, ok, rfl, h, hb⟩

set_option linter.unusedSimpArgs false in
set_option maxHeartbeats 2000000 in
set_option maxRecDepth 100000 in
theorem text_any (neg : Bool) (s : ByteArray) (exp : Int) (w : World) (hs : s.size ≤ 1048576) (hexp : exp ≤ 4611686018427387904) :
    Calls Tryd.prog 10 #[.agg #[.bool neg, .string s, .int .i64 exp]] w fun e w' => TextPost neg s exp w e w' := by
  by_cases hE : s.data.toList = []
  · have HT : Hid (TextIs neg s exp ⟨#[48]⟩ true) := .inl ⟨hE, rfl, rfl⟩
    have hse : s.toList.isEmpty = true := by rw [ByteArray.toList_eq, hE]; rfl
    clear hE
    go_enter Tryd.func10, Tryd.ntmps10
    go_wp2
    go_ret2
    exact textPost _ _ HT.out ((Below.refl _ _).alloc (Nat.le_refl _) _)
  have hse : s.toList.isEmpty = false := by
    rw [ByteArray.toList_eq]
    cases h : s.data.toList with
    | nil => exact absurd h hE
    | cons _ _ => rfl
  by_cases hx : exp < 0
  · have HT : Hid (TextIs neg s exp ⟨#[]⟩ false) := .inr (.inl ⟨hE, .inl hx, rfl⟩)
    clear hE
    go_enter Tryd.func10, Tryd.ntmps10
    go_wp2
    go_ret2
    exact textPost _ _ HT.out ((Below.refl _ _).alloc (Nat.le_refl _) _)
  by_cases h20 : 20 < (s.size : Int) + exp
  · have HT : Hid (TextIs neg s exp ⟨#[]⟩ false) := .inr (.inl ⟨hE, .inr h20, rfl⟩)
    clear hE
    go_enter Tryd.func10, Tryd.ntmps10
    go_wp2
    go_ret2
    exact textPost _ _ HT.out ((Below.refl _ _).alloc (Nat.le_refl _) _)
  obtain ⟨m, rfl⟩ : ∃ m : Nat, exp = m := ⟨exp.toNat, by omega⟩
  have hm : m ≤ 20 := by omega
  have hs20 : s.size ≤ 20 := by omega
  have HT : Hid (∀ t : ByteArray, t.data.toList = (if neg then [45] else []) ++ (s.data.toList ++ List.replicate m 48) → TextIs neg s m t true) := fun t ht => .inr (.inr ⟨hE, hx, h20, rfl, ht⟩)
  clear hE
  go_enter Tryd.func10, Tryd.ntmps10
  go_upto_region 7 with fail
  obtain ⟨W1, hW1⟩ : ∃ W1, w.alloc (.cells #[.bool neg, .string s, .int .i64 m] 28) = W1 := ⟨_, rfl⟩
  have z0 : W1.cell? ⟨w.heap.size, 0, none⟩ = some (.bool neg) := by rw [← hW1]; simp [go_sem]
  have z1 : W1.cell? ⟨w.heap.size, 1, none⟩ = some (.string s) := by rw [← hW1]; simp [go_sem]
  have z2 : W1.cell? ⟨w.heap.size, 2, none⟩ = some (.int .i64 m) := by rw [← hW1]; simp [go_sem]
  have hb1 : Below w.heap.size w W1 := by rw [← hW1]; exact (Below.refl _ _).alloc (Nat.le_refl _) _
  have hsz : W1.heap.size = w.heap.size + 1 := by rw [← hW1]; simp
  rw [hW1]
  clear hW1
  refine wp_region_noPanic ?_
  refine wp_region_held_drew (S := fun w' => Below (w.heap.size + 1) W1 w') (by kernel_rfl) (Below.drew (Below.refl _ _)) (fun hHeld => ?_)
  refine wpAnyH_take (i := 0) (v := .pointer (some ⟨w.heap.size, 1, none⟩)) rfl (by kernel_rfl) (by kernel_rfl) (by kernel_rfl) (fun _ _ _ h => h) (Or.inl ⟨by rfl, ?_⟩) (by assumption) ?_
  · (intro w0 hSw; clear hSw; go_simp)
  try simp only [Act.put, List.setIfInBounds_toArray, List.set_cons_zero, List.set_cons_succ]
  refine wpAnyH_take (i := 1) (v := .string s) rfl (by kernel_rfl) (by kernel_rfl) (by kernel_rfl) (fun _ _ _ h => h) (Or.inl ⟨by rfl, ?_⟩) (by assumption) ?_
  · (intro w0 hSw; have hcell := (Below.cell hSw (p := ⟨w.heap.size, 1, none⟩) (by simp)).trans z1; clear hSw; go_simp)
  try simp only [Act.put, List.setIfInBounds_toArray, List.set_cons_zero, List.set_cons_succ]
  refine wpAnyH_take (i := 2) (v := .pointer (some ⟨w.heap.size, 2, none⟩)) rfl (by kernel_rfl) (by kernel_rfl) (by kernel_rfl) (fun _ _ _ h => h) (Or.inl ⟨by rfl, ?_⟩) (by assumption) ?_
  · (intro w0 hSw; clear hSw; go_simp)
  try simp only [Act.put, List.setIfInBounds_toArray, List.set_cons_zero, List.set_cons_succ]
  refine wpAnyH_take (i := 3) (v := .int .i64 m) rfl (by kernel_rfl) (by kernel_rfl) (by kernel_rfl) (fun _ _ _ h => h) (Or.inl ⟨by rfl, ?_⟩) (by assumption) ?_
  · (intro w0 hSw; have hcell := (Below.cell hSw (p := ⟨w.heap.size, 2, none⟩) (by simp)).trans z2; clear hSw; go_simp)
  try simp only [Act.put, List.setIfInBounds_toArray, List.set_cons_zero, List.set_cons_succ]
  refine wpAnyH_ready (rs := [4]) (by kernel_rfl) (by simp) ?_
  refine AllReadyH.cons rfl (fun K hK => ?_) ?_
  · skip
    go_simp
    refine (Tryd.strings_Repeat ⟨#[48]⟩ m _ (by omega) (by show 1 * m ≤ _; omega)).mono ?_
    rintro e w5 ⟨rfl, hb5⟩
    go_simp
    have hH5 : Below (w.heap.size + 1) W1 w5 := hHeld.trans (hb5.mono (by show w.heap.size + 1 ≤ W1.heap.size; omega))
    clear hHeld
    refine hK.out _ _ hH5 (fun hHeld => ?_)
    clear hK K hH5 hb5
    try simp only [Act.put, List.setIfInBounds_toArray, List.set_cons_zero, List.set_cons_succ]
    have hRl : Lib.repeatL [48] m = List.replicate m 48 := by
      have := Lib.repeatL_replicate 48 1 m
      simpa using this
    obtain ⟨R, hR⟩ : ∃ R, ByteArray.mk (Lib.repeatL [48] m).toArray = R := ⟨_, rfl⟩
    have HRl : Hid (R.data.toList = List.replicate m 48) := by
      show _ = _
      rw [← hR, hRl]
    have hRs : R.size ≤ 20 := by
      have : R.size = R.data.toList.length := by simp
      rw [this, HRl.out]
      simpa using hm
    rw [hR]
    clear hR hRl
    refine wpAnyH_take (i := 5) (v := .string (s ++ R)) rfl (by kernel_rfl) (by kernel_rfl) (by kernel_rfl) (fun _ _ _ h => h) (Or.inl ⟨by rfl, ?_⟩) (by assumption) ?_
    · (intro w0 hSw; clear hSw; go_simp; omega)
    try simp only [Act.put, List.setIfInBounds_toArray, List.set_cons_zero, List.set_cons_succ]
    refine wpAnyH_take (i := 6) (v := .string (s ++ R)) rfl (by kernel_rfl) (by kernel_rfl) (by kernel_rfl) (fun _ _ _ h => h) (Or.inl ⟨by rfl, ?_⟩) (by assumption) ?_
    · (intro w0 hSw; clear hSw; go_simp)
    try simp only [Act.put, List.setIfInBounds_toArray, List.set_cons_zero, List.set_cons_succ]
    refine wpAnyH_done (by kernel_rfl) ?_ _
    refine NoPanic.normal ?_
    have HTX : Hid ((s ++ R).data.toList = s.data.toList ++ List.replicate m 48) := by
      show _ = _
      rw [← HRl.out]
      simp
    have hsz2 : (s ++ R).size ≤ 40 := by simp; omega
    have y0 := (Below.cell hHeld (p := ⟨w.heap.size, 0, none⟩) (by simp)).trans z0
    have hbw : Below w.heap.size w w5 := hb1.trans (hHeld.mono (by omega))
    generalize s ++ R = T at HTX hsz2 ⊢
    clear hHeld z0 z1 z2
    cases neg with
    | false =>
      go_wp2
      go_ret2
      exact textPost _ _ (HT.out T (by rw [HTX.out]; rfl)) hbw
    | true =>
      have hT1 : ¬ 9223372036854775807 < 1 + T.size := by omega
      go_wp2
      go_ret2
      exact textPost _ _ (HT.out _ (by rw [← HTX.out]; simp)) hbw
  exact AllReadyH.nil
end Go.Proofs.Qxb6618445aDoor
