/-
  Walk of the law (3).
-/
import Derived.Test.Qxb6618378aPlain
import Derived.Test.Qxb6618378aGuards
import Derived.Test.Qxb6618378aTo
import Derived.Test.Qxb6618378aRows18
import Derived.Carry
namespace Go.Proofs.Qxb6618378a
open Go.RowKit

def LawPost (w : World) (e : Ending) (w' : World) : Prop := e = .returned (.bool true) ∧ Below w.heap.size w w'
theorem lawPost {w w' : World} (hb : Below w.heap.size w w') : LawPost w (.returned (.bool true)) w' := ⟨rfl, hb⟩
theorem Rows2.drewN {w : World} {vo : Option Addr} {n : Nat} {X : List (List (Int × Int))} (h : Rows2 w vo n X) (q : Nat) : Rows2 (w.drewN q) vo n X := h

theorem zz_swap (rx xa xc xs ry ya yc ys : Int) (xo yo : Option Addr) (n m cx cy mb : Nat) (X Y : List (List (Int × Int))) (w : World) (hX : Rows2 w xo n X) (hY : Rows2 w yo m Y) (hn : n ≤ 65536) (hm : m ≤ 65536)
    (sx : Small xc) (sy : Small yc) (lX : ∀ j, j < n → (X.getD j []).length ≤ 65536) (lY : ∀ j, j < m → (Y.getD j []).length ≤ 65536)
    (gX : ∀ T ∈ X, ∀ t ∈ T, GoodTag t) (gY : ∀ T ∈ Y, ∀ t ∈ T, GoodTag t) (hM : MapIs w mb 0 []) (hag : ∀ t : Int, max xc yc ≤ t → t < min (xc + n) (yc + m) → X.getD (t - xc).toNat [] = Y.getD (t - yc).toNat []) :
    Calls Try.prog 7 #[.int .u64 ry, .int .u64 ya, .int .u64 yc, .int .u64 ys, .slice yo m cy, .int .u64 rx, .int .u64 xa, .int .u64 xc, .int .u64 xs, .slice xo n cx, .map (some mb)] w fun e w' =>
      ZZPost ry (max xa ya) (max xc yc) (max xs (max ys (min (xc + n) (yc + m)))) (lenM xc yc n m) mb (rowsM xc yc n m X Y) (goneM yc xc m n Y X) w e w' := by
  have h := zz_any ry ya yc ys rx xa xc xs yo xo m n cy cx mb Y X w hY hX hm hn sy sx lY lX gY gX hM
  rw [Int.max_comm ya xa, Int.max_comm yc xc, stab_swap, lenM_swap, rowsM_swap _ _ _ _ _ _ hag] at h
  exact h

set_option maxHeartbeats 4000000 in
set_option maxRecDepth 100000 in
theorem law_any (r xa xc xs ya yc ys : Int) (xo yo : Option Addr) (n m cx cy : Nat) (X Y : List (List (Int × Int))) (w : World) (hX : Rows2 w xo n X) (hY : Rows2 w yo m Y)
    (ux : 0 ≤ xc) (uy : 0 ≤ yc) (gX : ∀ T ∈ X, ∀ t ∈ T, GoodTag t) (gY : ∀ T ∈ Y, ∀ t ∈ T, GoodTag t) :
    Calls Try.prog 3 #[.int .u64 r, .int .u64 xa, .int .u64 xc, .int .u64 xs, .slice xo n cx, .int .u64 ya, .int .u64 yc, .int .u64 ys, .slice yo m cy] w fun e w' => LawPost w e w' := by
  have HX : Hid (Rows2 w xo n X) := hX
  have HY : Hid (Rows2 w yo m Y) := hY
  have HGX : Hid (∀ T ∈ X, ∀ t ∈ T, GoodTag t) := gX
  have HGY : Hid (∀ T ∈ Y, ∀ t ∈ T, GoodTag t) := gY
  clear hX hY gX gY
  have hmm := @run_makeMap Try.prog
  go_enter Try.func3, Try.ntmps3
  go_upto_region 3 with (go_at_call 4; refine (guard_any r xa xc xs ya yc ys xo yo n m cx cy X Y _ HX.out HY.out).mono ?_; rintro e w1 ⟨v, rfl, hv, rfl⟩; rcases hv with rfl | rfl)
  rotate_left
  · go_ret
    exact lawPost (Below.refl _ _)
  go_upto_region 5 with (go_at_call 5; refine (big_any xo yo n m cx cy X Y _ HX.out HY.out).mono ?_; rintro e w1 ⟨v, rfl, hv, rfl⟩; rcases hv with rfl | ⟨rfl, hn, hm, lX, lY⟩)
  · go_ret
    exact lawPost (Below.refl _ _)
  have HLX : Hid (∀ j, j < n → (X.getD j []).length ≤ 65536) := lX
  have HLY : Hid (∀ j, j < m → (Y.getD j []).length ≤ 65536) := lY
  clear lX lY
  by_cases hx63 : 9223372036854775808 < xc
  · go_wp2
    go_ret
    exact lawPost (Below.refl _ _)
  by_cases hy63 : 9223372036854775808 < yc
  · go_wp2
    go_ret
    exact lawPost (Below.refl _ _)
  have sx : Small xc := ⟨ux, by omega⟩
  have sy : Small yc := ⟨uy, by omega⟩
  go_upto_region 9 with (go_at_call 6; refine (agree_any xc yc xo yo n m cx cy X Y _ HX.out HY.out hn hm sx sy HLX.out HLY.out).mono ?_; rintro e w1 ⟨v, rfl, hv, q, rfl⟩; rcases hv with rfl | ⟨rfl, hag⟩)
  · go_ret
    exact lawPost (below_drewN' (Below.refl _ _) _)
  have HAG : Hid (∀ t : Int, max xc yc ≤ t → t < min (xc + n) (yc + m) → X.getD (t - xc).toNat [] = Y.getD (t - yc).toNat []) := hag
  clear hag hx63 hy63
  have w3 : IntKind.u64.wrap (xc + n) = xc + n := wrap_add sx (by omega) (by omega)
  have w4 : IntKind.u64.wrap (yc + m) = yc + m := wrap_add sy (by omega) (by omega)
  go_upto_region 13 with fail
  have hbW : Below w1.heap.size w1 (((w1.drewN q).alloc (.map #[] 0)).alloc (.map #[] 0)) := ((below_drewN' (Below.refl _ _) q).alloc (Nat.le_refl _) _).alloc (by simp) _
  have HM1 : Hid (MapIs (((w1.drewN q).alloc (.map #[] 0)).alloc (.map #[] 0)) w1.heap.size 0 []) := World.ownsMap.alloc (World.ownsMap_made (w1.drewN q) Try.prog 45 (plainElem Try.prog 4)) _
  have HM2 : Hid (MapIs (((w1.drewN q).alloc (.map #[] 0)).alloc (.map #[] 0)) (w1.heap.size + 1) 0 []) := by
    have h := World.ownsMap_made (H := Unit) ((w1.drewN q).alloc (.map #[] 0)) Try.prog 45 (plainElem Try.prog 4)
    have e : ((w1.drewN q).alloc (.map #[] 0)).heap.size = w1.heap.size + 1 := by simp
    rw [e] at h
    exact h
  generalize ((w1.drewN q).alloc (.map #[] 0)).alloc (.map #[] 0) = W0 at hbW HM1 HM2 ⊢
  clear hmm
  have HXW : Hid (Rows2 W0 xo n X) := HX.out.later hbW
  have HYW : Hid (Rows2 W0 yo m Y) := HY.out.later hbW
  go_upto_region 14 with (first
    | (go_at_call_of 8 (Value.slice xo n cx); refine (to_any xo n cx X _ HXW.out (by omega) (fun j hj => Nat.le_trans (HLX.out j hj) (by omega))).mono ?_; rintro e a1 ⟨x1, cx1, rfl, hX1, hb1⟩)
    | (go_at_call_of 8 (Value.slice yo m cy); refine (to_any yo m cy Y _ (HYW.out.later hb1) (by omega) (fun j hj => Nat.le_trans (HLY.out j hj) (by omega))).mono ?_; rintro e a2 ⟨y1, cy1, rfl, hY1, hb2⟩)
    | (go_at_call 7; refine (zz_any r xa xc xs r ya yc ys x1 y1 n m cx1 cy1 w1.heap.size X Y _ (hX1.later hb2) hY1 hn hm sx sy HLX.out HLY.out HGX.out HGY.out ((HM1.out.stay hb1).stay hb2)).mono ?_; rintro e W1 ⟨m1, c1, rfl, hR1, hD1, hg1⟩))
  have hg01 : W0.grownBy W1 (some w1.heap.size) := grown_trans (grown_trans ⟨hb1.os, hb1.tape, hb1.output, hb1.size, fun i hi _ => hb1.block i hi⟩ ⟨hb2.os, hb2.tape, hb2.output, hb2.size, fun i hi _ => hb2.block i hi⟩) hg1
  have HXW1 : Hid (Rows2 W1 xo n X) := HXW.out.past HM1.out.block hg01
  have HYW1 : Hid (Rows2 W1 yo m Y) := HYW.out.past HM1.out.block hg01
  have HM2' : Hid (MapIs W1 (w1.heap.size + 1) 0 []) := World.ownsMap.kept HM2.out hg01 (by simp)
  have HR1 : Hid (Rows2 W1 m1 (lenM xc yc n m) (rowsM xc yc n m X Y)) := hR1
  have HD1 : Hid (MapIs W1 w1.heap.size (goneM xc yc n m X Y).length (goneM xc yc n m X Y)) := hD1
  have hbW1 : Below w1.heap.size w1 W1 := hbW.grown hg01 hbW.size (by rintro k ⟨⟩; exact Nat.le_refl _)
  clear hX1 hb1 hY1 hb2 hR1 hD1 hg1 hg01 HXW HYW HM1 HM2 hbW
  go_upto_region 15 with (first
    | (go_at_call_of 8 (Value.slice yo m cy); refine (to_any yo m cy Y _ HYW1.out (by omega) (fun j hj => Nat.le_trans (HLY.out j hj) (by omega))).mono ?_; rintro e b1 ⟨y2, cy2, rfl, hY2, hb1⟩)
    | (go_at_call_of 8 (Value.slice xo n cx); refine (to_any xo n cx X _ (HXW1.out.later hb1) (by omega) (fun j hj => Nat.le_trans (HLX.out j hj) (by omega))).mono ?_; rintro e b2 ⟨x2, cx2, rfl, hX2, hb2⟩)
    | (go_at_call 7; refine (zz_swap r xa xc xs r ya yc ys x2 y2 n m cx2 cy2 (w1.heap.size + 1) X Y _ hX2 (hY2.later hb2) hn hm sx sy HLX.out HLY.out HGX.out HGY.out ((HM2'.out.stay hb1).stay hb2) HAG.out).mono ?_; rintro e W2 ⟨m2, c2, rfl, hR2, hD2, hg2⟩))
  have hg12 : W1.grownBy W2 (some (w1.heap.size + 1)) := grown_trans (grown_trans ⟨hb1.os, hb1.tape, hb1.output, hb1.size, fun i hi _ => hb1.block i hi⟩ ⟨hb2.os, hb2.tape, hb2.output, hb2.size, fun i hi _ => hb2.block i hi⟩) hg2
  have HX2 : Hid (Rows2 W2 xo n X) := HXW1.out.past HM2'.out.block hg12
  have HY2 : Hid (Rows2 W2 yo m Y) := HYW1.out.past HM2'.out.block hg12
  have HRA : Hid (Rows2 W2 m1 (lenM xc yc n m) (rowsM xc yc n m X Y)) := HR1.out.past HM2'.out.block hg12
  have HRB : Hid (Rows2 W2 m2 (lenM xc yc n m) (rowsM xc yc n m X Y)) := hR2
  have HDA : Hid (MapIs W2 w1.heap.size (goneM xc yc n m X Y).length (goneM xc yc n m X Y)) := World.ownsMap.kept HD1.out hg12 (by simp)
  have HDB : Hid (MapIs W2 (w1.heap.size + 1) (goneM yc xc m n Y X).length (goneM yc xc m n Y X)) := hD2
  have hbW2 : Below w1.heap.size w1 W2 := hbW1.grown hg12 hbW1.size (by rintro k ⟨⟩; omega)
  clear hX2 hb1 hY2 hb2 hR2 hD2 hg2 hg12 HXW1 HYW1 HR1 HD1 HM2' hbW1
  have HLM : Hid (∀ k, k < lenM xc yc n m → ((rowsM xc yc n m X Y).getD k []).length ≤ 65536) := fun k hk => rowsM_len HX.out.1 HY.out.1 HLX.out HLY.out k hk
  have hLle := lenM_le xc yc n m hn hm
  have hL2 : max (xc + n) (yc + m) - max xc yc = (lenM xc yc n m : Int) := by unfold lenM; omega
  generalize lenM xc yc n m = L at HRA HRB HLM hLle hL2 ⊢
  generalize rowsM xc yc n m X Y = M at HRA HRB HLM ⊢
  generalize max xs (max ys (min (xc + n) (yc + m))) = S
  have wL : IntKind.u64.wrap (L : Int) = L := u64_id (by omega) (by omega)
  have wL2 : IntKind.u64.wrap (max (xc + n) (yc + m) - max xc yc) = L := by rw [hL2]; exact wL
  have q1 : (r != r) = false := by simp
  have q2 : (max xa ya != max xa ya) = false := by simp
  have q3 : (max xc yc != max xc yc) = false := by simp
  have q4 : (S != S) = false := by simp
  have q5 : ((L : Int) != (L : Int)) = false := by simp
  clear hL2
  go_upto_region 23 with (first
    | (go_at_call_of 9 (Value.int IntKind.u64 xa); refine (greater_any xa ya _).mono ?_; rintro e z1 ⟨rfl, rfl⟩)
    | (go_at_call_of 9 (Value.int IntKind.u64 xc); refine (greater_any xc yc _).mono ?_; rintro e z1 ⟨rfl, rfl⟩)
    | (go_at_call 9; refine (greater_any (xc + n) (yc + m) _).mono ?_; rintro e z1 ⟨rfl, rfl⟩))
  clear q1 q2 q3 q4 q5 wL wL2
  go_wp2
  go_loopw [33] (fun i wr => ∃ (k q : Nat), k ≤ L ∧ i = .int .i64 k ∧ wr = z1.drewN q) (fun i _ => L - (intOf i).toNat)
  case atStart => exact ⟨0, 0, Nat.zero_le _, rfl, rfl⟩
  case round =>
    obtain ⟨k, q, hk, rfl, rfl⟩ := hrel
    by_cases hlt : k < L
    · have hll := HLM.out k hlt
      obtain ⟨_, h | ⟨ba, oa, rfl, hca⟩⟩ := HRA.out
      · omega
      obtain ⟨_, h | ⟨bb, ob, rfl, hcb⟩⟩ := HRB.out
      · omega
      obtain ⟨ao, la, ca, y1, T1⟩ := hca k hlt
      obtain ⟨bo, lb, cb, y2, T2⟩ := hcb k hlt
      have n1 : la ≤ 65536 := by rw [← T1.1]; exact hll
      have n2 : lb ≤ 65536 := by rw [← T2.1]; exact hll
      have HT1 : Hid (∀ q, TagRow (z1.drewN q) ao la (M.getD k [])) := fun q => T1.later (below_drewN' (Below.refl _ _) q)
      have HT2 : Hid (∀ q, TagRow (z1.drewN q) bo lb (M.getD k [])) := fun q => T2.later (below_drewN' (Below.refl _ _) q)
      clear hca hcb T1 T2 hll
      generalize M.getD k [] = T at HT1 HT2
      have hd : decide (T = T) = true := decide_eq_true rfl
      go_wp2
      go_quiet ((go_at_call 10; refine quiet_add (v := .bool (decide (T = T))) ?_; exact same_orset ao bo la lb ca cb T T _ (HT1.out _) (HT2.out _) (by omega) (by omega)))
      go_wp2
      go_roundw
      case rel => exact ⟨k + 1, _, by omega, by go_num, rfl⟩
      case measure => simp [intOf]; omega
    · clear hk HRA HRB HLM
      have hsz := size_SET (goneM_swap xc yc n m X Y)
      have hl1 : ∀ ty, (Builtin.len_ #[27] ty #[.map (some w1.heap.size)]).run Try.prog (z1.drewN q) = .ok (.int .i64 (Maps.size (SET (goneM xc yc n m X Y)))) (z1.drewN q) := fun ty => World.ownsMap.len (w := z1.drewN q) HDA.out Try.underlying27 ty
      have hl2 : ∀ ty, (Builtin.len_ #[27] ty #[.map (some (w1.heap.size + 1))]).run Try.prog (z1.drewN q) = .ok (.int .i64 (Maps.size (SET (goneM yc xc m n Y X)))) (z1.drewN q) := fun ty => World.ownsMap.len (w := z1.drewN q) HDB.out Try.underlying27 ty
      rw [hsz] at hl2
      generalize Maps.size (SET (goneM xc yc n m X Y)) = N at hl1 hl2
      have hNN : ((N : Int) != (N : Int)) = false := by simp
      have hbq : Below w1.heap.size w1 (z1.drewN q) := below_drewN' hbW2 q
      have HC1 := hidM (agreerows_any w1.heap.size (w1.heap.size + 1) _ _ (goneM xc yc n m X Y) (goneM yc xc m n Y X) (fun t => (goneM_swap xc yc n m X Y t).symm) (goneM_good HGX.out HGY.out) (goneM_good HGY.out HGX.out) xo n cx X (z1.drewN q) (HX2.out.drewN q) HGX.out HLX.out HDA.out HDB.out (by omega))
      have HC2 := hidM (fun w2 (hb : Below (z1.drewN q).heap.size (z1.drewN q) w2) => agreerows_any w1.heap.size (w1.heap.size + 1) _ _ (goneM xc yc n m X Y) (goneM yc xc m n Y X) (fun t => (goneM_swap xc yc n m X Y t).symm) (goneM_good HGX.out HGY.out) (goneM_good HGY.out HGX.out) yo m cy Y w2 ((HY2.out.drewN q).later hb) HGY.out HLY.out (MapIs.stay (w := z1.drewN q) HDA.out hb) (MapIs.stay (w := z1.drewN q) HDB.out hb) (by omega))
      clear hsz HX2 HY2 HDA HDB hbW2
      go_upto_region 30 with fail
      go_wp2_with fail
      refine HC1.out.mono ?_
      rintro e w5 ⟨rfl, hb5⟩
      clear hl1 hl2 hNN HC1
      go_wp2_with fail
      refine (HC2.out _ hb5).mono ?_
      rintro e w6 ⟨rfl, hb6⟩
      have hfin := hbq.trans ((hb5.mono hbq.size).trans (hb6.mono (Nat.le_trans hbq.size hb5.size)))
      clear HC2 hb5 hb6 hbq
      go_wp2
      go_ret
      exact lawPost hfin
end Go.Proofs.Qxb6618378a
