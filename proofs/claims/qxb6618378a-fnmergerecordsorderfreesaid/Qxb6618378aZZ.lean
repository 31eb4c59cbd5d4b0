/-
  Walk of ZZMergeRecords (7).
-/
import Derived.Test.Qxb6618378aMerge
namespace Go.Proofs.Qxb6618378a
open Go.RowKit

theorem hidM {p : Prop} (h : p) : Hid p := h
theorem lenM_le (xc yc : Int) (n m : Nat) (hn : n ≤ 65536) (hm : m ≤ 65536) : lenM xc yc n m ≤ 65536 := by unfold lenM; omega

/-- What ZZMergeRecords hands back. -/
def ZZPost (r a c s : Int) (L mb : Nat) (M : List (List (Int × Int))) (G : List (Int × Int)) (w : World) (e : Ending) (w' : World) : Prop :=
  ∃ vo' c', e = .returned (.tuple #[.int .u64 r, .int .u64 a, .int .u64 c, .int .u64 s, .slice vo' L c']) ∧ Rows2 w' vo' L M ∧ MapIs w' mb G.length G ∧ w.grownBy w' (some mb)

set_option linter.unusedSimpArgs false in
set_option maxHeartbeats 4000000 in
set_option maxRecDepth 100000 in
theorem zz_any (rx xa xc xs ry ya yc ys : Int) (xo yo : Option Addr) (n m cx cy mb : Nat) (X Y : List (List (Int × Int))) (w : World) (hX : Rows2 w xo n X) (hY : Rows2 w yo m Y) (hn : n ≤ 65536) (hm : m ≤ 65536)
    (sx : Small xc) (sy : Small yc) (lX : ∀ j, j < n → (X.getD j []).length ≤ 65536) (lY : ∀ j, j < m → (Y.getD j []).length ≤ 65536)
    (gX : ∀ T ∈ X, ∀ t ∈ T, GoodTag t) (gY : ∀ T ∈ Y, ∀ t ∈ T, GoodTag t) (hM : MapIs w mb 0 []) :
    Calls Try.prog 7 #[.int .u64 rx, .int .u64 xa, .int .u64 xc, .int .u64 xs, .slice xo n cx, .int .u64 ry, .int .u64 ya, .int .u64 yc, .int .u64 ys, .slice yo m cy, .map (some mb)] w fun e w' =>
      ZZPost rx (max xa ya) (max xc yc) (max xs (max ys (min (xc + n) (yc + m)))) (lenM xc yc n m) mb (rowsM xc yc n m X Y) (goneM xc yc n m X Y) w e w' := by
  have HLX : Hid (∀ j, j < n → (X.getD j []).length ≤ 65536) := lX
  have HLY : Hid (∀ j, j < m → (Y.getD j []).length ≤ 65536) := lY
  have HGX : Hid (∀ T ∈ X, ∀ t ∈ T, GoodTag t) := gX
  have HGY : Hid (∀ T ∈ Y, ∀ t ∈ T, GoodTag t) := gY
  have HX : Hid (Rows2 w xo n X) := hX
  have HY : Hid (Rows2 w yo m Y) := hY
  have HM : Hid (MapIs w mb 0 []) := hM
  clear lX lY gX gY hX hY hM
  go_enter Try.func7, Try.ntmps7
  go_upto_region 2 with (go_at_call 14; refine (removals_any xo n cx X w HX.out (by omega)).mono ?_; rintro e w1 ⟨xo', cx', rfl, hcx, hX1, hb1⟩)
  have HX1 : Hid (Rows2 w1 xo' n X) := hX1
  clear hX1
  have hb2 : Below w.heap.size w (w1.alloc (.cells #[.int .u64 rx, .int .u64 xa, .int .u64 xc, .int .u64 xs, .slice xo' n cx'] 41)) := hb1.alloc hb1.size _
  have HX2 : Hid (Rows2 (w1.alloc (.cells #[.int .u64 rx, .int .u64 xa, .int .u64 xc, .int .u64 xs, .slice xo' n cx'] 41)) xo' n X) := HX1.out.later ((Below.refl _ _).alloc (Nat.le_refl _) _)
  have HR1 : Hid (Rec5 (w1.alloc (.cells #[.int .u64 rx, .int .u64 xa, .int .u64 xc, .int .u64 xs, .slice xo' n cx'] 41)) w1.heap.size rx xa xc xs (.slice xo' n cx')) := by
    show Rec5 _ _ _ _ _ _ _
    simp [Rec5, go_sem]
  generalize hb : w1.heap.size = b1 at HR1 ⊢
  generalize w1.alloc (.cells #[.int .u64 rx, .int .u64 xa, .int .u64 xc, .int .u64 xs, .slice xo' n cx'] 41) = W1 at hb2 HX2 HR1 ⊢
  clear hb HX1 hb1
  go_upto_region 3 with (go_at_call 14; refine (removals_any yo m cy Y W1 (HY.out.later hb2) (by omega)).mono ?_; rintro e w2 ⟨yo', cy', rfl, hcy, hY1, hb3⟩)
  have HY1 : Hid (Rows2 w2 yo' m Y) := hY1
  clear hY1
  have hb4 : Below W1.heap.size W1 (w2.alloc (.cells #[.int .u64 ry, .int .u64 ya, .int .u64 yc, .int .u64 ys, .slice yo' m cy'] 41)) := hb3.alloc hb3.size _
  have HY2 : Hid (Rows2 (w2.alloc (.cells #[.int .u64 ry, .int .u64 ya, .int .u64 yc, .int .u64 ys, .slice yo' m cy'] 41)) yo' m Y) := HY1.out.later ((Below.refl _ _).alloc (Nat.le_refl _) _)
  have HX3 : Hid (Rows2 (w2.alloc (.cells #[.int .u64 ry, .int .u64 ya, .int .u64 yc, .int .u64 ys, .slice yo' m cy'] 41)) xo' n X) := HX2.out.later hb4
  have HR2 : Hid (Rec5 (w2.alloc (.cells #[.int .u64 ry, .int .u64 ya, .int .u64 yc, .int .u64 ys, .slice yo' m cy'] 41)) w2.heap.size ry ya yc ys (.slice yo' m cy')) := by
    show Rec5 _ _ _ _ _ _ _
    simp [Rec5, go_sem]
  have HR3 : Hid (Rec5 (w2.alloc (.cells #[.int .u64 ry, .int .u64 ya, .int .u64 yc, .int .u64 ys, .slice yo' m cy'] 41)) b1 rx xa xc xs (.slice xo' n cx')) := HR1.out.later hb4 (World.block_lt_of_cell? W1 _ HR1.out.1)
  have hb5 : Below w.heap.size w (w2.alloc (.cells #[.int .u64 ry, .int .u64 ya, .int .u64 yc, .int .u64 ys, .slice yo' m cy'] 41)) := hb2.trans (hb4.mono hb2.size)
  generalize hb : w2.heap.size = b2 at HR2 ⊢
  generalize w2.alloc (.cells #[.int .u64 ry, .int .u64 ya, .int .u64 yc, .int .u64 ys, .slice yo' m cy'] 41) = W2 at hb5 HY2 HX3 HR2 HR3 ⊢
  clear hb HY1 hb3 hb4 hb2 HX2 HR1
  have HM2 : Hid (MapIs W2 mb 0 []) := HM.out.later hb5 HM.out.lt
  obtain ⟨k0, k1, k2, k3, k4, _⟩ := HR3.out
  obtain ⟨l0, l1, l2, l3, l4, _⟩ := HR2.out
  have HCALL := hidM (merge_any rx xa xc xs ry ya yc ys xo' yo' n m cx' cy' mb X Y W2 HX3.out HY2.out hn hm hcx hcy sx sy HLX.out HLY.out HGX.out HGY.out HM2.out)
  go_upto_region 4 with (go_at_call 15; refine HCALL.out.mono ?_; rintro e W3 ⟨vo, cc, rfl, hR, hM3, hg3⟩)
  have HR : Hid (Rows2 W3 vo (lenM xc yc n m) (rowsM xc yc n m X Y)) := hR
  have HM3 : Hid (MapIs W3 mb (goneM xc yc n m X Y).length (goneM xc yc n m X Y)) := hM3
  have hgw : w.grownBy W3 (some mb) := grown_trans ⟨hb5.os, hb5.tape, hb5.output, hb5.size, fun i hi _ => hb5.block i hi⟩ hg3
  clear hR hM3 hg3 hb5 k0 k1 k2 k3 k4 l0 l1 l2 l3 l4 HCALL
  have z0 : (W3.alloc (.cells #[.int .u64 rx, .int .u64 (max xa ya), .int .u64 (max xc yc), .int .u64 (max xs (max ys (min (xc + n) (yc + m)))), .slice vo (lenM xc yc n m) cc] 41)).cell? ⟨W3.heap.size, 0, none⟩ = some (.int .u64 rx) := by simp [go_sem]
  have z1 : (W3.alloc (.cells #[.int .u64 rx, .int .u64 (max xa ya), .int .u64 (max xc yc), .int .u64 (max xs (max ys (min (xc + n) (yc + m)))), .slice vo (lenM xc yc n m) cc] 41)).cell? ⟨W3.heap.size, 1, none⟩ = some (.int .u64 (max xa ya)) := by simp [go_sem]
  have z2 : (W3.alloc (.cells #[.int .u64 rx, .int .u64 (max xa ya), .int .u64 (max xc yc), .int .u64 (max xs (max ys (min (xc + n) (yc + m)))), .slice vo (lenM xc yc n m) cc] 41)).cell? ⟨W3.heap.size, 2, none⟩ = some (.int .u64 (max xc yc)) := by simp [go_sem]
  have z3 : (W3.alloc (.cells #[.int .u64 rx, .int .u64 (max xa ya), .int .u64 (max xc yc), .int .u64 (max xs (max ys (min (xc + n) (yc + m)))), .slice vo (lenM xc yc n m) cc] 41)).cell? ⟨W3.heap.size, 3, none⟩ = some (.int .u64 (max xs (max ys (min (xc + n) (yc + m))))) := by simp [go_sem]
  have z4 : (W3.alloc (.cells #[.int .u64 rx, .int .u64 (max xa ya), .int .u64 (max xc yc), .int .u64 (max xs (max ys (min (xc + n) (yc + m)))), .slice vo (lenM xc yc n m) cc] 41)).cell? ⟨W3.heap.size, 4, none⟩ = some (.slice vo (lenM xc yc n m) cc) := by simp [go_sem]
  have hsz : (W3.alloc (.cells #[.int .u64 rx, .int .u64 (max xa ya), .int .u64 (max xc yc), .int .u64 (max xs (max ys (min (xc + n) (yc + m)))), .slice vo (lenM xc yc n m) cc] 41)).heap.size = W3.heap.size + 1 := by simp
  have hb6 : Below W3.heap.size W3 (W3.alloc (.cells #[.int .u64 rx, .int .u64 (max xa ya), .int .u64 (max xc yc), .int .u64 (max xs (max ys (min (xc + n) (yc + m)))), .slice vo (lenM xc yc n m) cc] 41)) := (Below.refl _ _).alloc (Nat.le_refl _) _
  have HL : Hid (lenM xc yc n m ≤ 65536) := lenM_le xc yc n m hn hm
  generalize W3.alloc (.cells #[.int .u64 rx, .int .u64 (max xa ya), .int .u64 (max xc yc), .int .u64 (max xs (max ys (min (xc + n) (yc + m)))), .slice vo (lenM xc yc n m) cc] 41) = W4 at z0 z1 z2 z3 z4 hsz hb6 ⊢
  refine wp_region_noPanic ?_
  refine wp_region_held_drew (S := fun w' => Below (W3.heap.size + 1) W4 w') (by kernel_rfl) (Below.drew (Below.refl _ _)) (fun hHeld => ?_)
  refine wpAnyH_take (i := 0) (v := .pointer (some ⟨W3.heap.size, 0, none⟩)) rfl (by kernel_rfl) (by kernel_rfl) (by kernel_rfl) (fun _ _ _ h => h) (Or.inl ⟨by rfl, ?_⟩) (by assumption) ?_
  · (intro w0 hSw; clear hSw; go_simp)
  try simp only [Act.put, List.setIfInBounds_toArray, List.set_cons_zero, List.set_cons_succ]
  refine wpAnyH_take (i := 1) (v := .int .u64 (rx)) rfl (by kernel_rfl) (by kernel_rfl) (by kernel_rfl) (fun _ _ _ h => h) (Or.inl ⟨by rfl, ?_⟩) (by assumption) ?_
  · (intro w0 hSw; have hcell := (Below.cell hSw (p := ⟨W3.heap.size, 0, none⟩) (by simp)).trans z0; clear hSw; go_simp)
  try simp only [Act.put, List.setIfInBounds_toArray, List.set_cons_zero, List.set_cons_succ]
  refine wpAnyH_take (i := 2) (v := .pointer (some ⟨W3.heap.size, 1, none⟩)) rfl (by kernel_rfl) (by kernel_rfl) (by kernel_rfl) (fun _ _ _ h => h) (Or.inl ⟨by rfl, ?_⟩) (by assumption) ?_
  · (intro w0 hSw; clear hSw; go_simp)
  try simp only [Act.put, List.setIfInBounds_toArray, List.set_cons_zero, List.set_cons_succ]
  refine wpAnyH_take (i := 3) (v := .int .u64 (max xa ya)) rfl (by kernel_rfl) (by kernel_rfl) (by kernel_rfl) (fun _ _ _ h => h) (Or.inl ⟨by rfl, ?_⟩) (by assumption) ?_
  · (intro w0 hSw; have hcell := (Below.cell hSw (p := ⟨W3.heap.size, 1, none⟩) (by simp)).trans z1; clear hSw; go_simp)
  try simp only [Act.put, List.setIfInBounds_toArray, List.set_cons_zero, List.set_cons_succ]
  refine wpAnyH_take (i := 4) (v := .pointer (some ⟨W3.heap.size, 2, none⟩)) rfl (by kernel_rfl) (by kernel_rfl) (by kernel_rfl) (fun _ _ _ h => h) (Or.inl ⟨by rfl, ?_⟩) (by assumption) ?_
  · (intro w0 hSw; clear hSw; go_simp)
  try simp only [Act.put, List.setIfInBounds_toArray, List.set_cons_zero, List.set_cons_succ]
  refine wpAnyH_take (i := 5) (v := .int .u64 (max xc yc)) rfl (by kernel_rfl) (by kernel_rfl) (by kernel_rfl) (fun _ _ _ h => h) (Or.inl ⟨by rfl, ?_⟩) (by assumption) ?_
  · (intro w0 hSw; have hcell := (Below.cell hSw (p := ⟨W3.heap.size, 2, none⟩) (by simp)).trans z2; clear hSw; go_simp)
  try simp only [Act.put, List.setIfInBounds_toArray, List.set_cons_zero, List.set_cons_succ]
  refine wpAnyH_take (i := 6) (v := .pointer (some ⟨W3.heap.size, 3, none⟩)) rfl (by kernel_rfl) (by kernel_rfl) (by kernel_rfl) (fun _ _ _ h => h) (Or.inl ⟨by rfl, ?_⟩) (by assumption) ?_
  · (intro w0 hSw; clear hSw; go_simp)
  try simp only [Act.put, List.setIfInBounds_toArray, List.set_cons_zero, List.set_cons_succ]
  refine wpAnyH_take (i := 7) (v := .int .u64 (max xs (max ys (min (xc + n) (yc + m))))) rfl (by kernel_rfl) (by kernel_rfl) (by kernel_rfl) (fun _ _ _ h => h) (Or.inl ⟨by rfl, ?_⟩) (by assumption) ?_
  · (intro w0 hSw; have hcell := (Below.cell hSw (p := ⟨W3.heap.size, 3, none⟩) (by simp)).trans z3; clear hSw; go_simp)
  try simp only [Act.put, List.setIfInBounds_toArray, List.set_cons_zero, List.set_cons_succ]
  refine wpAnyH_take (i := 8) (v := .pointer (some ⟨W3.heap.size, 4, none⟩)) rfl (by kernel_rfl) (by kernel_rfl) (by kernel_rfl) (fun _ _ _ h => h) (Or.inl ⟨by rfl, ?_⟩) (by assumption) ?_
  · (intro w0 hSw; clear hSw; go_simp)
  try simp only [Act.put, List.setIfInBounds_toArray, List.set_cons_zero, List.set_cons_succ]
  refine wpAnyH_take (i := 9) (v := .slice vo (lenM xc yc n m) cc) rfl (by kernel_rfl) (by kernel_rfl) (by kernel_rfl) (fun _ _ _ h => h) (Or.inl ⟨by rfl, ?_⟩) (by assumption) ?_
  · (intro w0 hSw; have hcell := (Below.cell hSw (p := ⟨W3.heap.size, 4, none⟩) (by simp)).trans z4; clear hSw; go_simp)
  try simp only [Act.put, List.setIfInBounds_toArray, List.set_cons_zero, List.set_cons_succ]
  refine wpAnyH_ready (rs := [10]) (by kernel_rfl) (by simp) ?_
  refine AllReadyH.cons rfl (fun K hK => ?_) ?_
  · skip
    go_simp
    refine (tagrows_any vo (lenM xc yc n m) cc (rowsM xc yc n m X Y) _ (HR.out.later (hb6.trans (hHeld.mono (by omega)))) (by have := HL.out; omega)).mono ?_
    rintro e w5 ⟨vo', c', rfl, hR5, hb7⟩
    go_simp
    have hH5 : Below (W3.heap.size + 1) W4 w5 := hHeld.trans (hb7.mono (by show W3.heap.size + 1 ≤ W4.heap.size; omega))
    have HR5 : Hid (Rows2 w5 vo' (lenM xc yc n m) (rowsM xc yc n m X Y)) := hR5
    clear hHeld hb7 hR5
    refine hK.out _ _ hH5 (fun hHeld => ?_)
    clear hK K hHeld
    try simp only [Act.put, List.setIfInBounds_toArray, List.set_cons_zero, List.set_cons_succ]
    refine wpAnyH_take (i := 11) (v := .int .u64 (rx)) rfl (by kernel_rfl) (by kernel_rfl) (by kernel_rfl) (fun _ _ _ h => h) (Or.inl ⟨by rfl, ?_⟩) (by assumption) ?_
    · (intro w0 hSw; clear hSw; go_simp)
    try simp only [Act.put, List.setIfInBounds_toArray, List.set_cons_zero, List.set_cons_succ]
    refine wpAnyH_take (i := 12) (v := .int .u64 (max xa ya)) rfl (by kernel_rfl) (by kernel_rfl) (by kernel_rfl) (fun _ _ _ h => h) (Or.inl ⟨by rfl, ?_⟩) (by assumption) ?_
    · (intro w0 hSw; clear hSw; go_simp)
    try simp only [Act.put, List.setIfInBounds_toArray, List.set_cons_zero, List.set_cons_succ]
    refine wpAnyH_take (i := 13) (v := .int .u64 (max xc yc)) rfl (by kernel_rfl) (by kernel_rfl) (by kernel_rfl) (fun _ _ _ h => h) (Or.inl ⟨by rfl, ?_⟩) (by assumption) ?_
    · (intro w0 hSw; clear hSw; go_simp)
    try simp only [Act.put, List.setIfInBounds_toArray, List.set_cons_zero, List.set_cons_succ]
    refine wpAnyH_take (i := 14) (v := .int .u64 (max xs (max ys (min (xc + n) (yc + m))))) rfl (by kernel_rfl) (by kernel_rfl) (by kernel_rfl) (fun _ _ _ h => h) (Or.inl ⟨by rfl, ?_⟩) (by assumption) ?_
    · (intro w0 hSw; clear hSw; go_simp)
    simp only [Act.put, List.getElem_toArray, List.getElem_cons_succ, List.getElem_cons_zero, List.setIfInBounds_toArray, List.set_cons_zero, List.set_cons_succ]
    refine wpAnyH_take (i := 15) (v := .slice vo' (lenM xc yc n m) c') rfl (by kernel_rfl) (by kernel_rfl) (by kernel_rfl) (fun _ _ _ h => h) (Or.inl ⟨by rfl, ?_⟩) (by assumption) ?_
    · (intro w0 hSw; clear hSw; go_simp)
    simp only [Act.put, List.getElem_toArray, List.getElem_cons_succ, List.getElem_cons_zero, List.setIfInBounds_toArray, List.set_cons_zero, List.set_cons_succ]
    refine wpAnyH_done (by kernel_rfl) ?_ _
    refine NoPanic.normal ?_
    have hb8 : Below W3.heap.size W3 w5 := hb6.trans (hH5.mono (by omega))
    have HM5 : Hid (MapIs w5 mb (goneM xc yc n m X Y).length (goneM xc yc n m X Y)) := HM3.out.later hb8 HM3.out.lt
    have hgw5 : w.grownBy w5 (some mb) := grown_trans hgw ⟨hb8.os, hb8.tape, hb8.output, hb8.size, fun i hi _ => hb8.block i hi⟩
    clear hb8 hb6 hH5 z0 z1 z2 z3 z4
    go_wp2
    refine bodyPost_ret (v := .tuple #[.int .u64 rx, .int .u64 (max xa ya), .int .u64 (max xc yc), .int .u64 (max xs (max ys (min (xc + n) (yc + m)))), .slice vo' (lenM xc yc n m) c']) (by simp [results, Try.results7, go_sem]) rfl ?_
    exact ⟨vo', c', rfl, HR5.out, HM5.out, hgw5⟩
  exact AllReadyH.nil
end Go.Proofs.Qxb6618378a
