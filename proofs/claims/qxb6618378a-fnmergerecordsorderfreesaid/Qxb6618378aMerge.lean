/-
  Walk of mergeRecords (15).
-/
import Derived.Test.Qxb6618378aKnown
import Derived.Test.Qxb6618378aMaps
import Derived.Test.Qxb6618378aCopy
import Derived.Deep.RegionHeld3
import Derived.Deep.AppendLies
import Derived.Deep.DeepCutAuto
import Derived.Deep.CutBlock
namespace Go.Proofs.Qxb6618378a
open Go.RowKit

/-- A record's five cells. -/
def Rec5 (w : World) (b : Nat) (r a c s : Int) (v : Value) : Prop :=
  w.cell? ⟨b, 0, none⟩ = some (.int .u64 r) ∧ w.cell? ⟨b, 1, none⟩ = some (.int .u64 a) ∧ w.cell? ⟨b, 2, none⟩ = some (.int .u64 c) ∧ w.cell? ⟨b, 3, none⟩ = some (.int .u64 s) ∧ w.cell? ⟨b, 4, none⟩ = some v ∧ ∀ o, w.frozen? ⟨b, o, none⟩ = false

theorem Rec5.later {w w' : World} {b B : Nat} {r a c s : Int} {v : Value} (h : Rec5 w b r a c s v) (hb : Below B w w') (hB : b < B) : Rec5 w' b r a c s v := by
  obtain ⟨h0, h1, h2, h3, h4, h5⟩ := h
  exact ⟨(hb.cell (p := ⟨b, 0, none⟩) hB).trans h0, (hb.cell (p := ⟨b, 1, none⟩) hB).trans h1, (hb.cell (p := ⟨b, 2, none⟩) hB).trans h2, (hb.cell (p := ⟨b, 3, none⟩) hB).trans h3, (hb.cell (p := ⟨b, 4, none⟩) hB).trans h4, fun o => (hb.frozen (p := ⟨b, o, none⟩) hB).trans (h5 o)⟩
theorem Rec5.grown {w w' : World} {b g : Nat} {r a c s : Int} {v : Value} (h : Rec5 w b r a c s v) (hg : w.grownBy w' (some g)) (hne : b ≠ g) : Rec5 w' b r a c s v := by
  obtain ⟨h0, h1, h2, h3, h4, h5⟩ := h
  have hn : some b ≠ some g := by simpa using hne
  have hlt : b < w.heap.size := World.block_lt_of_cell? w _ h0
  exact ⟨hg.cell h0 hn, hg.cell h1 hn, hg.cell h2 hn, hg.cell h3 hn, hg.cell h4 hn, fun o => (hg.frozen_far ⟨b, o, none⟩ hlt hn).trans (h5 o)⟩

theorem cell_not_map {w : World} {a : Addr} {v : Value} {mb : Nat} {es : Array MapEntry} {cl : Nat} (h : w.cell? a = some v) (hm : w.heap[mb]? = some (.map es cl)) : a.block ≠ mb := by
  rintro rfl
  simp [World.cell?, hm] at h

theorem MapIs.block {w : World} {b N : Nat} {S : List (Int × Int)} (h : MapIs w b N S) : ∃ es cl, w.heap[b]? = some (.map es cl) := by
  obtain ⟨es, cl, h, _⟩ := h
  exact ⟨es, cl, h⟩
theorem MapIs.lt {w : World} {b N : Nat} {S : List (Int × Int)} (h : MapIs w b N S) : b < w.heap.size := World.ownsMap.lt h
theorem MapIs.later {w w' : World} {b N B : Nat} {S : List (Int × Int)} (h : MapIs w b N S) (hb : Below B w w') (hB : b < B) : MapIs w' b N S := by
  obtain ⟨es, cl, h, r⟩ := h
  exact ⟨es, cl, (hb.block b hB).trans h, r⟩

theorem TagRow.past {w w' : World} {ao : Option Addr} {n mb : Nat} {T : List (Int × Int)} (h : TagRow w ao n T) (hm : ∃ es cl, w.heap[mb]? = some (.map es cl)) (hg : w.grownBy w' (some mb)) : TagRow w' ao n T := by
  obtain ⟨es, cl, hm⟩ := hm
  obtain ⟨h1, h2 | ⟨b, off, rfl, hc⟩⟩ := h
  · exact ⟨h1, .inl h2⟩
  · refine ⟨h1, .inr ⟨b, off, rfl, fun j hj => ?_⟩⟩
    obtain ⟨c1, c2⟩ := hc j hj
    have hb : some b ≠ some mb := by simpa using cell_not_map c1 hm
    exact ⟨hg.cell c1 hb, hg.cell c2 hb⟩
theorem Rows2.past {w w' : World} {vo : Option Addr} {n mb : Nat} {X : List (List (Int × Int))} (h : Rows2 w vo n X) (hm : ∃ es cl, w.heap[mb]? = some (.map es cl)) (hg : w.grownBy w' (some mb)) : Rows2 w' vo n X := by
  obtain ⟨h1, h2 | ⟨b, off, rfl, hc⟩⟩ := h
  · exact ⟨h1, .inl h2⟩
  · refine ⟨h1, .inr ⟨b, off, rfl, fun j hj => ?_⟩⟩
    obtain ⟨ao, m, c, c1, c2⟩ := hc j hj
    obtain ⟨es, cl, hm'⟩ := hm
    have hb : some b ≠ some mb := by simpa using cell_not_map c1 hm'
    exact ⟨ao, m, c, hg.cell c1 hb, c2.past ⟨es, cl, hm'⟩ hg⟩

/-- What one record drops. -/
def gone (C c : Int) (k : Nat) (Z : List (List (Int × Int))) : List (Int × Int) := (Z.take (min C (c + k) - c).toNat).flatten
def parts (C xc yc : Int) (n m : Nat) (X Y : List (List (Int × Int))) : Nat → List (Int × Int)
  | 0 => []
  | 1 => gone C xc n X
  | _ => gone C xc n X ++ gone C yc m Y

theorem len_flatten_take (Z : List (List (Int × Int))) (h : ∀ j, j < Z.length → (Z.getD j []).length ≤ 65536) : ∀ p, p ≤ Z.length → (Z.take p).flatten.length ≤ p * 65536
  | 0, _ => by simp
  | p + 1, hp => by
    have ih := len_flatten_take Z h p (by omega)
    have e : Z.take (p + 1) = Z.take p ++ [Z.getD p []] := by
      rw [List.take_add_one, List.getElem?_eq_getElem (by omega)]
      simp [List.getD_eq_getElem?_getD, List.getElem?_eq_getElem (show p < Z.length by omega)]
    rw [e, List.flatten_append, List.length_append]
    have := h p (by omega)
    have e1 : [Z.getD p []].flatten.length = (Z.getD p []).length := by simp
    rw [e1]
    omega
theorem take_snoc (Z : List (List (Int × Int))) (p : Nat) (hp : p < Z.length) : Z.take (p + 1) = Z.take p ++ [Z.getD p []] := by
  rw [List.take_add_one, List.getElem?_eq_getElem hp]
  simp [List.getD_eq_getElem?_getD, List.getElem?_eq_getElem hp]
theorem take_snoc' (T : List (Int × Int)) (p : Nat) (hp : p < T.length) : T.take (p + 1) = T.take p ++ [T.getD p (0, 0)] := by
  rw [List.take_add_one, List.getElem?_eq_getElem hp]
  simp [List.getD_eq_getElem?_getD, List.getElem?_eq_getElem hp]

theorem MapIs.put {w : World} {b N : Nat} {S : List (Int × Int)} {t : Int × Int} (h : w.ownsMap Try.prog 45 (plainElem Try.prog 4) b (N + 1) ((SET S).put (KEY t) tru)) (hN : N = S.length) : MapIs w b (S ++ [t]).length (S ++ [t]) := by
  unfold MapIs
  rw [SET_snoc, List.length_append, ← hN]
  exact h
theorem plain_true : plainElem Try.prog 4 (.bool true) = some (tru, []) := plainElem_bool Try.underlying4 true
theorem mem_getD {Z : List (List (Int × Int))} {j : Nat} (hj : j < Z.length) : Z.getD j [] ∈ Z := by
  rw [List.getD_eq_getElem?_getD, List.getElem?_eq_getElem hj]
  exact List.getElem_mem hj
theorem mem_getD' {T : List (Int × Int)} {j : Nat} (hj : j < T.length) : T.getD j (0, 0) ∈ T := by
  rw [List.getD_eq_getElem?_getD, List.getElem?_eq_getElem hj]
  exact List.getElem_mem hj

theorem flatten_mono (Z : List (List (Int × Int))) {a b : Nat} (h : a ≤ b) : (Z.take a).flatten.length ≤ (Z.take b).flatten.length := by
  obtain ⟨c, rfl⟩ := Nat.exists_eq_add_of_le h
  rw [List.take_add, List.flatten_append, List.length_append]
  omega
theorem gone_len (C c : Int) (k : Nat) (Z : List (List (Int × Int))) (hZ : Z.length = k) (hk : k ≤ 65536) (h : ∀ j, j < k → (Z.getD j []).length ≤ 65536) : (gone C c k Z).length ≤ 4294967296 := by
  unfold gone
  by_cases hp : (min C (c + k) - c).toNat ≤ Z.length
  · have := len_flatten_take Z (by rw [hZ]; exact h) _ hp
    omega
  · rw [List.take_of_length_le (by omega)]
    have := len_flatten_take Z (by rw [hZ]; exact h) Z.length (Nat.le_refl _)
    rw [List.take_length] at this
    omega
theorem parts_len (C xc yc : Int) (n m : Nat) (X Y : List (List (Int × Int))) (hX : X.length = n) (hY : Y.length = m) (lX : ∀ j, j < n → (X.getD j []).length ≤ 65536) (lY : ∀ j, j < m → (Y.getD j []).length ≤ 65536) (hn : n ≤ 65536) (hm : m ≤ 65536) :
    ∀ k, (parts C xc yc n m X Y k).length ≤ 4294967296 * 2
  | 0 => by simp [parts]
  | 1 => by
    have := gone_len C xc n X hX hn lX
    show (gone C xc n X).length ≤ _
    omega
  | k + 2 => by
    have h1 := gone_len C xc n X hX hn lX
    have h2 := gone_len C yc m Y hY hm lY
    show (gone C xc n X ++ gone C yc m Y).length ≤ _
    rw [List.length_append]
    omega

/-- What stands through the last loop. -/
def Keep4 (w : World) (H mb : Nat) (S : List (Int × Int)) (rx xa xc xs : Int) (vx : Value) (ry ya yc ys : Int) (vy : Value) (wr : World) : Prop :=
  Rec5 wr H rx xa xc xs vx ∧ Rec5 wr (H + 1) ry ya yc ys vy ∧ Rec5 wr (H + 2) 0 0 0 0 (.slice none 0 0) ∧ MapIs wr mb S.length S ∧ w.grownBy wr (some mb)
theorem Keep4.grown {w wr wr' : World} {H mb g : Nat} {S : List (Int × Int)} {rx xa xc xs : Int} {vx : Value} {ry ya yc ys : Int} {vy : Value} (h : Keep4 w H mb S rx xa xc xs vx ry ya yc ys vy wr) (hg : wr.grownBy wr' (some g)) (hgH : H + 3 ≤ g) (hmb : mb < H) (hH : w.heap.size = H) :
    Keep4 w H mb S rx xa xc xs vx ry ya yc ys vy wr' := by
  obtain ⟨h1, h2, h3, h4, h5⟩ := h
  refine ⟨h1.grown hg (by omega), h2.grown hg (by omega), h3.grown hg (by omega), World.ownsMap.kept h4 hg (by simp; omega), ⟨hg.os.trans h5.os, hg.tape.trans h5.tape, hg.output.trans h5.output, Nat.le_trans h5.size hg.size, fun i hi hn => ?_⟩⟩
  exact (hg.block i (Nat.lt_of_lt_of_le hi h5.size) (by simp; omega)).trans (h5.block i hi hn)
theorem grownBy_set (w : World) (a : Addr) (u : Value) : w.grownBy (w.setCell a u) (some a.block) := by
  obtain ⟨h1, h2, h3, h4, h5⟩ := (Below.refl a.block w).setCell (p := a) (Nat.le_refl _) u
  exact ⟨h1, h2, h3, h4, fun k _ hn => Below.heap_setCell _ _ _ _ (fun e => hn (by rw [e]))⟩
/-- The merged row number t. -/
def mrg (C xc yc : Int) (n : Nat) (X Y : List (List (Int × Int))) (t : Nat) : List (Int × Int) := if C + 1 + t ≤ xc + n then X.getD (C + t - xc).toNat [] else Y.getD (C + t - yc).toNat []
/-- The rows laid so far. -/
def Got (w : World) (f : Nat → List (Int × Int)) (j : Nat) (xs : List Value) : Prop := ∀ t, t < j → ∃ ao l c, xs[t]? = some (.slice ao l c) ∧ TagRow w ao l (f t)
theorem Got.next {w : World} {f : Nat → List (Int × Int)} {j : Nat} {xs : List Value} (h : Got w f j xs) (hl : xs.length = j) (ao : Option Addr) (l c : Nat) (hT : TagRow w ao l (f j)) : Got w f (j + 1) (xs ++ [.slice ao l c]) := by
  intro t ht
  by_cases e : t = j
  · subst e
    exact ⟨ao, l, c, by rw [List.getElem?_append_right (by omega)]; simp [hl], hT⟩
  · obtain ⟨ao', l', c', h1, h2⟩ := h t (by omega)
    exact ⟨ao', l', c', by rw [List.getElem?_append_left (by omega)]; exact h1, h2⟩

theorem Rec5.set4 {w : World} {b : Nat} {r a c s : Int} {v : Value} (h : Rec5 w b r a c s v) (u : Value) : Rec5 (w.setCell ⟨b, 4, none⟩ u) b r a c s u := by
  obtain ⟨h0, h1, h2, h3, h4, h5⟩ := h
  refine ⟨?_, ?_, ?_, ?_, ?_, ?_⟩
  · simp [go_sem, h0]
  · simp [go_sem, h1]
  · simp [go_sem, h2]
  · simp [go_sem, h3]
  · simp [go_sem, h4]
  · intro o
    simp [go_sem, h5]

theorem Keep4.drewN {w wr : World} {H mb : Nat} {S : List (Int × Int)} {rx xa xc xs : Int} {vx : Value} {ry ya yc ys : Int} {vy : Value} (h : Keep4 w H mb S rx xa xc xs vx ry ya yc ys vy wr) (q : Nat) : Keep4 w H mb S rx xa xc xs vx ry ya yc ys vy (wr.drewN q) := by
  obtain ⟨h1, h2, h3, h4, h5⟩ := h
  exact ⟨h1, h2, h3, h4, ⟨h5.os, h5.tape, h5.output, h5.size, h5.block⟩⟩

theorem alloc_cell (w : World) (o : Obj) (a : Addr) {v : Value} (h : w.cell? a = some v) : (w.alloc o).cell? a = some v := (((Below.refl w.heap.size w).alloc (Nat.le_refl _) o).cell (World.block_lt_of_cell? w a h)).trans h
theorem set_far (w : World) (a p : Addr) (u : Value) (h : p.block ≠ a.block) : (w.setCell a u).cell? p = w.cell? p := World.cell?_of_block (Below.heap_setCell w a u p.block h)

/-- The merged record's number of rows, and the rows. -/
def lenM (xc yc : Int) (n m : Nat) : Nat := (max (xc + n) (yc + m) - max xc yc).toNat
def rowsM (xc yc : Int) (n m : Nat) (X Y : List (List (Int × Int))) : List (List (Int × Int)) := (List.range (lenM xc yc n m)).map (mrg (max xc yc) xc yc n X Y)
def goneM (xc yc : Int) (n m : Nat) (X Y : List (List (Int × Int))) : List (Int × Int) := parts (max xc yc) xc yc n m X Y 2
theorem merge_end {w wr wr' : World} {H mb g cap L B : Nat} {S : List (Int × Int)} {rx xa xc xs : Int} {vx : Value} {ry ya yc ys : Int} {vy : Value} {vs : List Value} {f : Nat → List (Int × Int)} (hk : Keep4 w H mb S rx xa xc xs vx ry ya yc ys vy wr) (ho : wr.ownsRow B 49 1 (.slice (some ⟨g, 0, none⟩) L cap) L vs) (hB : H + 3 ≤ B) (hgot : Got w f L vs) (hM : MapIs w mb 0 []) (hmb : mb < H) (hH : w.heap.size = H) (hg : wr.grownBy wr' (some (H + 2))) :
    Rows2 wr' (some ⟨g, 0, none⟩) L ((List.range L).map f) ∧ MapIs wr' mb S.length S ∧ w.grownBy wr' (some mb) := by
  obtain ⟨h1, h2, h3, h4, h5⟩ := hk
  have hgg := (ho.lt g rfl).1
  have hww : w.grownBy wr' (some mb) := ⟨hg.os.trans h5.os, hg.tape.trans h5.tape, hg.output.trans h5.output, Nat.le_trans h5.size hg.size, fun i hi hn => (hg.block i (Nat.lt_of_lt_of_le hi h5.size) (by simp; omega)).trans (h5.block i hi hn)⟩
  refine ⟨⟨by simp, .inr ⟨g, 0, rfl, fun j hj => ?_⟩⟩, World.ownsMap.kept h4 hg (by simp; omega), hww⟩
  obtain ⟨ao, l, c, e1, e2⟩ := hgot j hj
  have hcell : wr.cell? ⟨g, j, none⟩ = some (.slice ao l c) := by
    have := ho.cellAt j (by omega)
    rw [this]; exact e1
  refine ⟨ao, l, c, ?_, ?_⟩
  · rw [Nat.zero_add]
    exact hg.cell hcell (by simp; omega)
  · have e : ((List.range L).map f).getD j [] = f j := by simp [hj]
    rw [e]
    exact e2.past hM.block hww
theorem max_ite (a b : Int) : (if a < b then b else a) = max a b := by split <;> omega
theorem min_ite (a b : Int) : (if b < a then b else a) = min a b := by split <;> omega
theorem max3_ite (a b c : Int) : (if (if a < b then b else a) < c then c else (if a < b then b else a)) = max a (max b c) := by
  rw [max_ite, max_ite]; omega

set_option linter.unusedSimpArgs false in
set_option maxHeartbeats 40000000 in
set_option maxRecDepth 100000 in
theorem merge_any (rx xa xc xs ry ya yc ys : Int) (xo yo : Option Addr) (n m cx cy mb : Nat) (X Y : List (List (Int × Int))) (w : World) (hX : Rows2 w xo n X) (hY : Rows2 w yo m Y) (hn : n ≤ 65536) (hm : m ≤ 65536) (hcx : n ≤ cx) (hcy : m ≤ cy)
    (sx : Small xc) (sy : Small yc) (lX : ∀ j, j < n → (X.getD j []).length ≤ 65536) (lY : ∀ j, j < m → (Y.getD j []).length ≤ 65536)
    (gX : ∀ T ∈ X, ∀ t ∈ T, GoodTag t) (gY : ∀ T ∈ Y, ∀ t ∈ T, GoodTag t) (hM : MapIs w mb 0 []) :
    Calls Try.prog 15 #[.agg #[.int .u64 rx, .int .u64 xa, .int .u64 xc, .int .u64 xs, .slice xo n cx], .agg #[.int .u64 ry, .int .u64 ya, .int .u64 yc, .int .u64 ys, .slice yo m cy], .map (some mb)] w fun e w' => ∃ vo' c', e = .returned (.agg #[.int .u64 rx, .int .u64 (max xa ya), .int .u64 (max xc yc), .int .u64 (max xs (max ys (min (xc + n) (yc + m)))), .slice vo' (lenM xc yc n m) c']) ∧ Rows2 w' vo' (lenM xc yc n m) (rowsM xc yc n m X Y) ∧ MapIs w' mb (goneM xc yc n m X Y).length (goneM xc yc n m X Y) ∧ w.grownBy w' (some mb) := by
  obtain ⟨H, hH⟩ : ∃ H, w.heap.size = H := ⟨_, rfl⟩
  have HLX : Hid (∀ j, j < n → (X.getD j []).length ≤ 65536) := lX
  have HLY : Hid (∀ j, j < m → (Y.getD j []).length ≤ 65536) := lY
  have HGX : Hid (∀ T ∈ X, ∀ t ∈ T, GoodTag t) := gX
  have HGY : Hid (∀ T ∈ Y, ∀ t ∈ T, GoodTag t) := gY
  have HX : Hid (Rows2 w xo n X) := hX
  have HY : Hid (Rows2 w yo m Y) := hY
  have HM : Hid (MapIs w mb 0 []) := hM
  clear lX lY gX gY hX hY hM
  go_enter Try.func15, Try.ntmps15
  go_upto_region 0 with fail
  go_cut [3, 4, 6] (fun s3 s4 s6 wc => s3 = .pointer (some ⟨H, 0, none⟩) ∧ s4 = .pointer (some ⟨H + 1, 0, none⟩) ∧ s6 = .pointer (some ⟨H + 2, 0, none⟩) ∧
    Rec5 wc H rx xa xc xs (.slice xo n cx) ∧ Rec5 wc (H + 1) ry ya yc ys (.slice yo m cy) ∧ Rec5 wc (H + 2) 0 0 0 0 (.slice none 0 0) ∧ wc.heap.size = H + 3 ∧ Below H w wc)
  case first =>
    go_wp2
    go_meet
    case rel =>
      subst hH
      refine ⟨rfl, rfl, rfl, ?_, ?_, ?_, ?_, ?_⟩
      · simp [Rec5, go_sem]
      · simp [Rec5, go_sem]
      · simp [Rec5, go_sem]
      · simp
      · exact (((Below.refl _ _).alloc (Nat.le_refl _) _).alloc (by simp) _).alloc (by simp; omega) _
  case rest =>
    obtain ⟨rfl, rfl, rfl, hr1, hr2, hr3, hs, hb0⟩ := hcut
    obtain ⟨W0, rfl⟩ : ∃ W0 : World, W0 = wc := ⟨_, rfl⟩
    go_upto_region 1 with fail
    go_cut [7] (fun s7 wc => s7 = .pointer (some ⟨H + 3, 0, none⟩) ∧ Rec5 wc (H + 3) rx (max xa ya) (max xc yc) (max xs (max ys (min (xc + n) (yc + m)))) (.slice none 0 0) ∧ wc.heap.size = H + 4 ∧ Below (H + 3) W0 wc)
    case first =>
      clear hcx hcy hH hb0
      obtain ⟨k0, k1, k2, k3, k4, _⟩ := hr1
      obtain ⟨l0, l1, l2, l3, l4, _⟩ := hr2
      clear hr3
      refine wp_region_noPanic ?_
      refine wp_region_held_drew (S := fun w' => Below (H + 3) W0 w') (by kernel_rfl) (Below.drew (Below.refl _ _)) (fun hHeld => ?_)
      refine wpAnyH_take (i := 0) (v := .pointer (some ⟨H, 0, none⟩)) rfl (by kernel_rfl) (by kernel_rfl) (by kernel_rfl) (fun _ _ _ h => h) (Or.inl ⟨by rfl, ?_⟩) (by assumption) ?_
      · (intro w0 hSw; clear hSw; go_simp; (try exact max_ite _ _); (try exact min_ite _ _); (try exact max3_ite _ _ _))
      try simp only [Act.put, List.setIfInBounds_toArray, List.set_cons_zero, List.set_cons_succ]
      refine wpAnyH_take (i := 1) (v := .int .u64 (rx)) rfl (by kernel_rfl) (by kernel_rfl) (by kernel_rfl) (fun _ _ _ h => h) (Or.inl ⟨by rfl, ?_⟩) (by assumption) ?_
      · (intro w0 hSw; have hcell := (Below.cell hSw (p := ⟨H, 0, none⟩) (by simp)).trans k0; clear hSw; go_simp; (try exact max_ite _ _); (try exact min_ite _ _); (try exact max3_ite _ _ _))
      try simp only [Act.put, List.setIfInBounds_toArray, List.set_cons_zero, List.set_cons_succ]
      refine wpAnyH_take (i := 2) (v := .pointer (some ⟨H, 1, none⟩)) rfl (by kernel_rfl) (by kernel_rfl) (by kernel_rfl) (fun _ _ _ h => h) (Or.inl ⟨by rfl, ?_⟩) (by assumption) ?_
      · (intro w0 hSw; clear hSw; go_simp; (try exact max_ite _ _); (try exact min_ite _ _); (try exact max3_ite _ _ _))
      try simp only [Act.put, List.setIfInBounds_toArray, List.set_cons_zero, List.set_cons_succ]
      refine wpAnyH_take (i := 3) (v := .int .u64 (xa)) rfl (by kernel_rfl) (by kernel_rfl) (by kernel_rfl) (fun _ _ _ h => h) (Or.inl ⟨by rfl, ?_⟩) (by assumption) ?_
      · (intro w0 hSw; have hcell := (Below.cell hSw (p := ⟨H, 1, none⟩) (by simp)).trans k1; clear hSw; go_simp; (try exact max_ite _ _); (try exact min_ite _ _); (try exact max3_ite _ _ _))
      try simp only [Act.put, List.setIfInBounds_toArray, List.set_cons_zero, List.set_cons_succ]
      refine wpAnyH_take (i := 4) (v := .pointer (some ⟨H + 1, 1, none⟩)) rfl (by kernel_rfl) (by kernel_rfl) (by kernel_rfl) (fun _ _ _ h => h) (Or.inl ⟨by rfl, ?_⟩) (by assumption) ?_
      · (intro w0 hSw; clear hSw; go_simp; (try exact max_ite _ _); (try exact min_ite _ _); (try exact max3_ite _ _ _))
      try simp only [Act.put, List.setIfInBounds_toArray, List.set_cons_zero, List.set_cons_succ]
      refine wpAnyH_take (i := 5) (v := .int .u64 (ya)) rfl (by kernel_rfl) (by kernel_rfl) (by kernel_rfl) (fun _ _ _ h => h) (Or.inl ⟨by rfl, ?_⟩) (by assumption) ?_
      · (intro w0 hSw; have hcell := (Below.cell hSw (p := ⟨H + 1, 1, none⟩) (by simp)).trans l1; clear hSw; go_simp; (try exact max_ite _ _); (try exact min_ite _ _); (try exact max3_ite _ _ _))
      try simp only [Act.put, List.setIfInBounds_toArray, List.set_cons_zero, List.set_cons_succ]
      refine wpAnyH_take (i := 6) (v := .int .u64 (max xa ya)) rfl (by kernel_rfl) (by kernel_rfl) (by kernel_rfl) (fun _ _ _ h => h) (Or.inl ⟨by rfl, ?_⟩) (by assumption) ?_
      · (intro w0 hSw; clear hSw; go_simp; (try exact max_ite _ _); (try exact min_ite _ _); (try exact max3_ite _ _ _))
      try simp only [Act.put, List.setIfInBounds_toArray, List.set_cons_zero, List.set_cons_succ]
      refine wpAnyH_take (i := 7) (v := .pointer (some ⟨H, 2, none⟩)) rfl (by kernel_rfl) (by kernel_rfl) (by kernel_rfl) (fun _ _ _ h => h) (Or.inl ⟨by rfl, ?_⟩) (by assumption) ?_
      · (intro w0 hSw; clear hSw; go_simp; (try exact max_ite _ _); (try exact min_ite _ _); (try exact max3_ite _ _ _))
      try simp only [Act.put, List.setIfInBounds_toArray, List.set_cons_zero, List.set_cons_succ]
      refine wpAnyH_take (i := 8) (v := .int .u64 (xc)) rfl (by kernel_rfl) (by kernel_rfl) (by kernel_rfl) (fun _ _ _ h => h) (Or.inl ⟨by rfl, ?_⟩) (by assumption) ?_
      · (intro w0 hSw; have hcell := (Below.cell hSw (p := ⟨H, 2, none⟩) (by simp)).trans k2; clear hSw; go_simp; (try exact max_ite _ _); (try exact min_ite _ _); (try exact max3_ite _ _ _))
      try simp only [Act.put, List.setIfInBounds_toArray, List.set_cons_zero, List.set_cons_succ]
      refine wpAnyH_take (i := 9) (v := .pointer (some ⟨H + 1, 2, none⟩)) rfl (by kernel_rfl) (by kernel_rfl) (by kernel_rfl) (fun _ _ _ h => h) (Or.inl ⟨by rfl, ?_⟩) (by assumption) ?_
      · (intro w0 hSw; clear hSw; go_simp; (try exact max_ite _ _); (try exact min_ite _ _); (try exact max3_ite _ _ _))
      try simp only [Act.put, List.setIfInBounds_toArray, List.set_cons_zero, List.set_cons_succ]
      refine wpAnyH_take (i := 10) (v := .int .u64 (yc)) rfl (by kernel_rfl) (by kernel_rfl) (by kernel_rfl) (fun _ _ _ h => h) (Or.inl ⟨by rfl, ?_⟩) (by assumption) ?_
      · (intro w0 hSw; have hcell := (Below.cell hSw (p := ⟨H + 1, 2, none⟩) (by simp)).trans l2; clear hSw; go_simp; (try exact max_ite _ _); (try exact min_ite _ _); (try exact max3_ite _ _ _))
      try simp only [Act.put, List.setIfInBounds_toArray, List.set_cons_zero, List.set_cons_succ]
      refine wpAnyH_take (i := 11) (v := .int .u64 (max xc yc)) rfl (by kernel_rfl) (by kernel_rfl) (by kernel_rfl) (fun _ _ _ h => h) (Or.inl ⟨by rfl, ?_⟩) (by assumption) ?_
      · (intro w0 hSw; clear hSw; go_simp; (try exact max_ite _ _); (try exact min_ite _ _); (try exact max3_ite _ _ _))
      try simp only [Act.put, List.setIfInBounds_toArray, List.set_cons_zero, List.set_cons_succ]
      refine wpAnyH_take (i := 12) (v := .pointer (some ⟨H, 3, none⟩)) rfl (by kernel_rfl) (by kernel_rfl) (by kernel_rfl) (fun _ _ _ h => h) (Or.inl ⟨by rfl, ?_⟩) (by assumption) ?_
      · (intro w0 hSw; clear hSw; go_simp; (try exact max_ite _ _); (try exact min_ite _ _); (try exact max3_ite _ _ _))
      try simp only [Act.put, List.setIfInBounds_toArray, List.set_cons_zero, List.set_cons_succ]
      refine wpAnyH_take (i := 13) (v := .int .u64 (xs)) rfl (by kernel_rfl) (by kernel_rfl) (by kernel_rfl) (fun _ _ _ h => h) (Or.inl ⟨by rfl, ?_⟩) (by assumption) ?_
      · (intro w0 hSw; have hcell := (Below.cell hSw (p := ⟨H, 3, none⟩) (by simp)).trans k3; clear hSw; go_simp; (try exact max_ite _ _); (try exact min_ite _ _); (try exact max3_ite _ _ _))
      try simp only [Act.put, List.setIfInBounds_toArray, List.set_cons_zero, List.set_cons_succ]
      refine wpAnyH_take (i := 14) (v := .pointer (some ⟨H + 1, 3, none⟩)) rfl (by kernel_rfl) (by kernel_rfl) (by kernel_rfl) (fun _ _ _ h => h) (Or.inl ⟨by rfl, ?_⟩) (by assumption) ?_
      · (intro w0 hSw; clear hSw; go_simp; (try exact max_ite _ _); (try exact min_ite _ _); (try exact max3_ite _ _ _))
      try simp only [Act.put, List.setIfInBounds_toArray, List.set_cons_zero, List.set_cons_succ]
      refine wpAnyH_take (i := 15) (v := .int .u64 (ys)) rfl (by kernel_rfl) (by kernel_rfl) (by kernel_rfl) (fun _ _ _ h => h) (Or.inl ⟨by rfl, ?_⟩) (by assumption) ?_
      · (intro w0 hSw; have hcell := (Below.cell hSw (p := ⟨H + 1, 3, none⟩) (by simp)).trans l3; clear hSw; go_simp; (try exact max_ite _ _); (try exact min_ite _ _); (try exact max3_ite _ _ _))
      try simp only [Act.put, List.setIfInBounds_toArray, List.set_cons_zero, List.set_cons_succ]
      refine wpAnyH_ready (rs := [16, 21]) (by kernel_rfl) (by simp) ?_
      refine AllReadyH.cons rfl (fun K hK => ?_) ?_
      · skip
        go_simp
        refine (known_any H xc xo n cx _ ((Below.cell hHeld (p := ⟨H, 2, none⟩) (by simp)).trans k2) ((Below.cell hHeld (p := ⟨H, 4, none⟩) (by simp)).trans k4) sx (by omega)).mono ?_
        rintro e w' ⟨rfl, q, rfl⟩
        go_simp
        clear hHeld
        refine hK.out _ _ ?_ (fun hHeld => ?_)
        · repeat' (first | exact Below.refl _ _ | with_reducible refine below_drewN' ?_ _ | with_reducible refine Below.drew ?_ | with_reducible refine Below.alloc ?_ (by simp [hs]) _ | with_reducible refine Below.setCell ?_ (by simp) _)
        clear hK K
        try simp only [Act.put, List.setIfInBounds_toArray, List.set_cons_zero, List.set_cons_succ]
        refine wpAnyH_ready (rs := [17, 21]) (by kernel_rfl) (by simp) ?_
        refine AllReadyH.cons rfl (fun K hK => ?_) ?_
        · skip
          go_simp
          refine (known_any (H + 1) yc yo m cy _ ((Below.cell hHeld (p := ⟨H + 1, 2, none⟩) (by simp)).trans l2) ((Below.cell hHeld (p := ⟨H + 1, 4, none⟩) (by simp)).trans l4) sy (by omega)).mono ?_
          rintro e w' ⟨rfl, q, rfl⟩
          go_simp
          clear hHeld
          refine hK.out _ _ ?_ (fun hHeld => ?_)
          · repeat' (first | exact Below.refl _ _ | with_reducible refine below_drewN' ?_ _ | with_reducible refine Below.drew ?_ | with_reducible refine Below.alloc ?_ (by simp [hs]) _ | with_reducible refine Below.setCell ?_ (by simp) _)
          clear hK K
          try simp only [Act.put, List.setIfInBounds_toArray, List.set_cons_zero, List.set_cons_succ]
          refine wpAnyH_take (i := 18) (v := .int .u64 (min (xc + n) (yc + m))) rfl (by kernel_rfl) (by kernel_rfl) (by kernel_rfl) (fun _ _ _ h => h) (Or.inl ⟨by rfl, ?_⟩) (by assumption) ?_
          · (intro w0 hSw; clear hSw; go_simp; (try exact max_ite _ _); (try exact min_ite _ _); (try exact max3_ite _ _ _))
          try simp only [Act.put, List.setIfInBounds_toArray, List.set_cons_zero, List.set_cons_succ]
          refine wpAnyH_take (i := 19) (v := .int .u64 (max xs (max ys (min (xc + n) (yc + m))))) rfl (by kernel_rfl) (by kernel_rfl) (by kernel_rfl) (fun _ _ _ h => h) (Or.inl ⟨by rfl, ?_⟩) (by assumption) ?_
          · (intro w0 hSw; clear hSw; go_simp; (try exact max_ite _ _); (try exact min_ite _ _); (try exact max3_ite _ _ _))
          try simp only [Act.put, List.setIfInBounds_toArray, List.set_cons_zero, List.set_cons_succ]
          refine wpAnyH_take (i := 20) (v := .agg #[.int .u64 rx, .int .u64 (max xa ya), .int .u64 (max xc yc), .int .u64 (max xs (max ys (min (xc + n) (yc + m)))), .slice none 0 0]) rfl (by kernel_rfl) (by kernel_rfl) (by kernel_rfl) (fun _ _ _ h => h) (Or.inl ⟨by rfl, ?_⟩) (by assumption) ?_
          · (intro w0 hSw; clear hSw; go_simp; (try exact max_ite _ _); (try exact min_ite _ _); (try exact max3_ite _ _ _))
          try simp only [Act.put, List.setIfInBounds_toArray, List.set_cons_zero, List.set_cons_succ]
          refine wpAnyH_ready (rs := [21]) (by kernel_rfl) (by simp) ?_
          refine AllReadyH.cons rfl (fun K hK => ?_) ?_
          · skip
            go_simp
            clear hHeld
            refine hK.out _ _ ?_ (fun hHeld => ?_)
            · repeat' (first | exact Below.refl _ _ | with_reducible refine below_drewN' ?_ _ | with_reducible refine Below.drew ?_ | with_reducible refine Below.alloc ?_ (by simp [hs]) _ | with_reducible refine Below.setCell ?_ (by simp) _)
            clear hK K
            try simp only [Act.put, List.setIfInBounds_toArray, List.set_cons_zero, List.set_cons_succ]
            refine wpAnyH_ready (rs := [22]) (by kernel_rfl) (by simp) ?_
            refine AllReadyH.cons rfl (fun K hK => ?_) ?_
            · skip
              go_simp
              clear hHeld
              refine hK.out _ _ ?_ (fun hHeld => ?_)
              · repeat' (first | exact Below.refl _ _ | with_reducible refine below_drewN' ?_ _ | with_reducible refine Below.drew ?_ | with_reducible refine Below.alloc ?_ (by simp [hs]) _ | with_reducible refine Below.setCell ?_ (by simp) _)
              clear hK K
              try simp only [Act.put, List.setIfInBounds_toArray, List.set_cons_zero, List.set_cons_succ]
              refine wpAnyH_done (by kernel_rfl) ?_ _
              refine NoPanic.normal ?_
              go_wp2
              go_meet
              case rel =>
                refine ⟨rfl, ?_, ?_, hHeld⟩
                · simp [Rec5, go_sem, hs]
                · simp [hs]
            exact AllReadyH.nil
          exact AllReadyH.nil
        refine AllReadyH.cons rfl (fun K hK => ?_) ?_
        · skip
          go_simp
          clear hHeld
          refine hK.out _ _ ?_ (fun hHeld => ?_)
          · repeat' (first | exact Below.refl _ _ | with_reducible refine below_drewN' ?_ _ | with_reducible refine Below.drew ?_ | with_reducible refine Below.alloc ?_ (by simp [hs]) _ | with_reducible refine Below.setCell ?_ (by simp) _)
          clear hK K
          try simp only [Act.put, List.setIfInBounds_toArray, List.set_cons_zero, List.set_cons_succ]
          refine wpAnyH_ready (rs := [17]) (by kernel_rfl) (by simp) ?_
          refine AllReadyH.cons rfl (fun K hK => ?_) ?_
          · skip
            go_simp
            refine (known_any (H + 1) yc yo m cy _ ((Below.cell hHeld (p := ⟨H + 1, 2, none⟩) (by simp)).trans l2) ((Below.cell hHeld (p := ⟨H + 1, 4, none⟩) (by simp)).trans l4) sy (by omega)).mono ?_
            rintro e w' ⟨rfl, q, rfl⟩
            go_simp
            clear hHeld
            refine hK.out _ _ ?_ (fun hHeld => ?_)
            · repeat' (first | exact Below.refl _ _ | with_reducible refine below_drewN' ?_ _ | with_reducible refine Below.drew ?_ | with_reducible refine Below.alloc ?_ (by simp [hs]) _ | with_reducible refine Below.setCell ?_ (by simp) _)
            clear hK K
            try simp only [Act.put, List.setIfInBounds_toArray, List.set_cons_zero, List.set_cons_succ]
            refine wpAnyH_take (i := 18) (v := .int .u64 (min (xc + n) (yc + m))) rfl (by kernel_rfl) (by kernel_rfl) (by kernel_rfl) (fun _ _ _ h => h) (Or.inl ⟨by rfl, ?_⟩) (by assumption) ?_
            · (intro w0 hSw; clear hSw; go_simp; (try exact max_ite _ _); (try exact min_ite _ _); (try exact max3_ite _ _ _))
            try simp only [Act.put, List.setIfInBounds_toArray, List.set_cons_zero, List.set_cons_succ]
            refine wpAnyH_take (i := 19) (v := .int .u64 (max xs (max ys (min (xc + n) (yc + m))))) rfl (by kernel_rfl) (by kernel_rfl) (by kernel_rfl) (fun _ _ _ h => h) (Or.inl ⟨by rfl, ?_⟩) (by assumption) ?_
            · (intro w0 hSw; clear hSw; go_simp; (try exact max_ite _ _); (try exact min_ite _ _); (try exact max3_ite _ _ _))
            try simp only [Act.put, List.setIfInBounds_toArray, List.set_cons_zero, List.set_cons_succ]
            refine wpAnyH_take (i := 20) (v := .agg #[.int .u64 rx, .int .u64 (max xa ya), .int .u64 (max xc yc), .int .u64 (max xs (max ys (min (xc + n) (yc + m)))), .slice none 0 0]) rfl (by kernel_rfl) (by kernel_rfl) (by kernel_rfl) (fun _ _ _ h => h) (Or.inl ⟨by rfl, ?_⟩) (by assumption) ?_
            · (intro w0 hSw; clear hSw; go_simp; (try exact max_ite _ _); (try exact min_ite _ _); (try exact max3_ite _ _ _))
            try simp only [Act.put, List.setIfInBounds_toArray, List.set_cons_zero, List.set_cons_succ]
            refine wpAnyH_ready (rs := [22]) (by kernel_rfl) (by simp) ?_
            refine AllReadyH.cons rfl (fun K hK => ?_) ?_
            · skip
              go_simp
              clear hHeld
              refine hK.out _ _ ?_ (fun hHeld => ?_)
              · repeat' (first | exact Below.refl _ _ | with_reducible refine below_drewN' ?_ _ | with_reducible refine Below.drew ?_ | with_reducible refine Below.alloc ?_ (by simp [hs]) _ | with_reducible refine Below.setCell ?_ (by simp) _)
              clear hK K
              try simp only [Act.put, List.setIfInBounds_toArray, List.set_cons_zero, List.set_cons_succ]
              refine wpAnyH_done (by kernel_rfl) ?_ _
              refine NoPanic.normal ?_
              go_wp2
              go_meet
              case rel =>
                refine ⟨rfl, ?_, ?_, hHeld⟩
                · simp [Rec5, go_sem, hs]
                · simp [hs]
            exact AllReadyH.nil
          exact AllReadyH.nil
        exact AllReadyH.nil
      refine AllReadyH.cons rfl (fun K hK => ?_) ?_
      · skip
        go_simp
        clear hHeld
        refine hK.out _ _ ?_ (fun hHeld => ?_)
        · repeat' (first | exact Below.refl _ _ | with_reducible refine below_drewN' ?_ _ | with_reducible refine Below.drew ?_ | with_reducible refine Below.alloc ?_ (by simp [hs]) _ | with_reducible refine Below.setCell ?_ (by simp) _)
        clear hK K
        try simp only [Act.put, List.setIfInBounds_toArray, List.set_cons_zero, List.set_cons_succ]
        refine wpAnyH_ready (rs := [16]) (by kernel_rfl) (by simp) ?_
        refine AllReadyH.cons rfl (fun K hK => ?_) ?_
        · skip
          go_simp
          refine (known_any H xc xo n cx _ ((Below.cell hHeld (p := ⟨H, 2, none⟩) (by simp)).trans k2) ((Below.cell hHeld (p := ⟨H, 4, none⟩) (by simp)).trans k4) sx (by omega)).mono ?_
          rintro e w' ⟨rfl, q, rfl⟩
          go_simp
          clear hHeld
          refine hK.out _ _ ?_ (fun hHeld => ?_)
          · repeat' (first | exact Below.refl _ _ | with_reducible refine below_drewN' ?_ _ | with_reducible refine Below.drew ?_ | with_reducible refine Below.alloc ?_ (by simp [hs]) _ | with_reducible refine Below.setCell ?_ (by simp) _)
          clear hK K
          try simp only [Act.put, List.setIfInBounds_toArray, List.set_cons_zero, List.set_cons_succ]
          refine wpAnyH_ready (rs := [17]) (by kernel_rfl) (by simp) ?_
          refine AllReadyH.cons rfl (fun K hK => ?_) ?_
          · skip
            go_simp
            refine (known_any (H + 1) yc yo m cy _ ((Below.cell hHeld (p := ⟨H + 1, 2, none⟩) (by simp)).trans l2) ((Below.cell hHeld (p := ⟨H + 1, 4, none⟩) (by simp)).trans l4) sy (by omega)).mono ?_
            rintro e w' ⟨rfl, q, rfl⟩
            go_simp
            clear hHeld
            refine hK.out _ _ ?_ (fun hHeld => ?_)
            · repeat' (first | exact Below.refl _ _ | with_reducible refine below_drewN' ?_ _ | with_reducible refine Below.drew ?_ | with_reducible refine Below.alloc ?_ (by simp [hs]) _ | with_reducible refine Below.setCell ?_ (by simp) _)
            clear hK K
            try simp only [Act.put, List.setIfInBounds_toArray, List.set_cons_zero, List.set_cons_succ]
            refine wpAnyH_take (i := 18) (v := .int .u64 (min (xc + n) (yc + m))) rfl (by kernel_rfl) (by kernel_rfl) (by kernel_rfl) (fun _ _ _ h => h) (Or.inl ⟨by rfl, ?_⟩) (by assumption) ?_
            · (intro w0 hSw; clear hSw; go_simp; (try exact max_ite _ _); (try exact min_ite _ _); (try exact max3_ite _ _ _))
            try simp only [Act.put, List.setIfInBounds_toArray, List.set_cons_zero, List.set_cons_succ]
            refine wpAnyH_take (i := 19) (v := .int .u64 (max xs (max ys (min (xc + n) (yc + m))))) rfl (by kernel_rfl) (by kernel_rfl) (by kernel_rfl) (fun _ _ _ h => h) (Or.inl ⟨by rfl, ?_⟩) (by assumption) ?_
            · (intro w0 hSw; clear hSw; go_simp; (try exact max_ite _ _); (try exact min_ite _ _); (try exact max3_ite _ _ _))
            try simp only [Act.put, List.setIfInBounds_toArray, List.set_cons_zero, List.set_cons_succ]
            refine wpAnyH_take (i := 20) (v := .agg #[.int .u64 rx, .int .u64 (max xa ya), .int .u64 (max xc yc), .int .u64 (max xs (max ys (min (xc + n) (yc + m)))), .slice none 0 0]) rfl (by kernel_rfl) (by kernel_rfl) (by kernel_rfl) (fun _ _ _ h => h) (Or.inl ⟨by rfl, ?_⟩) (by assumption) ?_
            · (intro w0 hSw; clear hSw; go_simp; (try exact max_ite _ _); (try exact min_ite _ _); (try exact max3_ite _ _ _))
            try simp only [Act.put, List.setIfInBounds_toArray, List.set_cons_zero, List.set_cons_succ]
            refine wpAnyH_ready (rs := [22]) (by kernel_rfl) (by simp) ?_
            refine AllReadyH.cons rfl (fun K hK => ?_) ?_
            · skip
              go_simp
              clear hHeld
              refine hK.out _ _ ?_ (fun hHeld => ?_)
              · repeat' (first | exact Below.refl _ _ | with_reducible refine below_drewN' ?_ _ | with_reducible refine Below.drew ?_ | with_reducible refine Below.alloc ?_ (by simp [hs]) _ | with_reducible refine Below.setCell ?_ (by simp) _)
              clear hK K
              try simp only [Act.put, List.setIfInBounds_toArray, List.set_cons_zero, List.set_cons_succ]
              refine wpAnyH_done (by kernel_rfl) ?_ _
              refine NoPanic.normal ?_
              go_wp2
              go_meet
              case rel =>
                refine ⟨rfl, ?_, ?_, hHeld⟩
                · simp [Rec5, go_sem, hs]
                · simp [hs]
            exact AllReadyH.nil
          exact AllReadyH.nil
        exact AllReadyH.nil
      exact AllReadyH.nil
    case rest =>
      obtain ⟨rfl, hr7, hs7, hb7⟩ := hcut
      have HR1 := hr1.later hb7 (by omega)
      have HR2 := hr2.later hb7 (by omega)
      have HR3 := hr3.later hb7 (by omega)
      obtain ⟨W1, rfl⟩ : ∃ W1 : World, W1 = wc := ⟨_, rfl⟩
      have hb1 : Below H w W1 := hb0.trans (hb7.mono (by omega))
      clear hr1 hr2 hr3 hb7 hb0 hs
      go_upto_region 2 with fail
      go_cut [39, 40, 41] (fun s39 s40 s41 wc => s39 = .slice (some ⟨H + 4, 0, none⟩) 2 2 ∧ s40 = .int .i64 2 ∧ s41 = .int .i64 0 ∧ wc.heap.size = H + 5 ∧ Below (H + 4) W1 wc ∧
        (wc.cell? ⟨H + 4, 0, none⟩ = some (.int .u64 rx) ∧ wc.cell? ⟨H + 4, 1, none⟩ = some (.int .u64 xa) ∧ wc.cell? ⟨H + 4, 2, none⟩ = some (.int .u64 xc) ∧ wc.cell? ⟨H + 4, 3, none⟩ = some (.int .u64 xs) ∧ wc.cell? ⟨H + 4, 4, none⟩ = some (.slice xo n cx)) ∧
        (wc.cell? ⟨H + 4, 5, none⟩ = some (.int .u64 ry) ∧ wc.cell? ⟨H + 4, 6, none⟩ = some (.int .u64 ya) ∧ wc.cell? ⟨H + 4, 7, none⟩ = some (.int .u64 yc) ∧ wc.cell? ⟨H + 4, 8, none⟩ = some (.int .u64 ys) ∧ wc.cell? ⟨H + 4, 9, none⟩ = some (.slice yo m cy)))
      case first =>
        obtain ⟨k0, k1, k2, k3, k4, _⟩ := HR1
        obtain ⟨l0, l1, l2, l3, l4, _⟩ := HR2
        clear hcx hcy hH hr7 HR3 hb1
        go_wp2
        go_meet
        case rel =>
          refine ⟨rfl, rfl, rfl, by simp [hs7], (Below.refl _ _).alloc (by simp [hs7]) _, ?_, ?_⟩
          · simp [go_sem, ← hs7]
          · simp [go_sem, ← hs7]
      case rest =>
        obtain ⟨rfl, rfl, rfl, hs2, hb2, t1, t2⟩ := hcut
        obtain ⟨W2, rfl⟩ : ∃ W2 : World, W2 = wc := ⟨_, rfl⟩
        have GR1 : Hid (Rec5 W2 H rx xa xc xs (.slice xo n cx)) := HR1.later hb2 (by omega)
        have GR2 : Hid (Rec5 W2 (H + 1) ry ya yc ys (.slice yo m cy)) := HR2.later hb2 (by omega)
        have GR3 : Hid (Rec5 W2 (H + 2) 0 0 0 0 (.slice none 0 0)) := HR3.later hb2 (by omega)
        have GR7 : Hid (Rec5 W2 (H + 3) rx (max xa ya) (max xc yc) (max xs (max ys (min (xc + n) (yc + m)))) (.slice none 0 0)) := hr7.later hb2 (by omega)
        have hbw : Below H w W2 := hb1.trans (hb2.mono (by omega))
        have hmb : mb < H := by rw [← hH]; exact HM.out.lt
        have HX2 : Hid (Rows2 W2 xo n X) := HX.out.later (by rw [hH]; exact hbw)
        have HY2 : Hid (Rows2 W2 yo m Y) := HY.out.later (by rw [hH]; exact hbw)
        have HM2 : Hid (MapIs W2 mb 0 []) := HM.out.later hbw hmb
        have T1 : Hid _ := t1
        have T2 : Hid _ := t2
        clear HR1 HR2 HR3 hr7 hb1 hb2 hs7 t1 t2
        obtain ⟨C, hC⟩ : ∃ C, max xc yc = C := ⟨_, rfl⟩
        have HC : Hid (max xc yc = C) := hC
        have hxC : xc ≤ C := by omega
        have hyC : yc ≤ C := by omega
        clear hC
        go_wp2
        go_loopw [41] (fun i wr => ∃ (k : Nat), i = .int .i64 k ∧ k ≤ 2 ∧ Hid (MapIs wr mb (parts C xc yc n m X Y k).length (parts C xc yc n m X Y k)) ∧ W2.grownBy wr (some mb)) (fun i _ => 2 - (intOf i).toNat)
        case atStart => exact ⟨0, rfl, by omega, HM2.out, World.grownBy.refl _ _⟩
        case round =>
          obtain ⟨k, rfl, hk, hmap, hgr⟩ := hrel
          by_cases hlt : k < 2
          · obtain ⟨ra, rb, rc, rd, ro, rn, rcap, Z, hz, hrows, hrn, hrcap, src, hrC, hlen, hgood, hpart⟩ : ∃ (ra rb rc rd : Int) (ro : Option Addr) (rn rcap : Nat) (Z : List (List (Int × Int))),
                (wr.cell? ⟨H + 4, k * 5, none⟩ = some (.int .u64 ra) ∧ wr.cell? ⟨H + 4, k * 5 + 1, none⟩ = some (.int .u64 rb) ∧ wr.cell? ⟨H + 4, k * 5 + 2, none⟩ = some (.int .u64 rc) ∧ wr.cell? ⟨H + 4, k * 5 + 3, none⟩ = some (.int .u64 rd) ∧ wr.cell? ⟨H + 4, k * 5 + 4, none⟩ = some (.slice ro rn rcap)) ∧
                Hid (Rows2 wr ro rn Z) ∧ rn ≤ 65536 ∧ rn ≤ rcap ∧ Small rc ∧ rc ≤ C ∧ Hid (∀ j, j < rn → (Z.getD j []).length ≤ 65536) ∧ Hid (∀ T ∈ Z, ∀ t ∈ T, GoodTag t) ∧ Hid (parts C xc yc n m X Y (k + 1) = parts C xc yc n m X Y k ++ gone C rc rn Z) := by
              have hne : some (H + 4) ≠ some mb := by simp; omega
              have hcase : k = 0 ∨ k = 1 := by omega
              rcases hcase with rfl | rfl
              · obtain ⟨a0, a1, a2, a3, a4⟩ := T1.out
                exact ⟨rx, xa, xc, xs, xo, n, cx, X, ⟨hgr.cell a0 hne, hgr.cell a1 hne, hgr.cell a2 hne, hgr.cell a3 hne, hgr.cell a4 hne⟩, HX2.out.past HM2.out.block hgr, hn, hcx, sx, hxC, HLX, HGX, rfl⟩
              · obtain ⟨a0, a1, a2, a3, a4⟩ := T2.out
                exact ⟨ry, ya, yc, ys, yo, m, cy, Y, ⟨hgr.cell a0 hne, hgr.cell a1 hne, hgr.cell a2 hne, hgr.cell a3 hne, hgr.cell a4 hne⟩, HY2.out.past HM2.out.block hgr, hm, hcy, sy, hyC, HLY, HGY, rfl⟩
            obtain ⟨z0, z1, z2, z3, z4⟩ := hz
            obtain ⟨m0, m1, m2, m3, m4, _⟩ := GR7.out
            have c7 := hgr.cell m2 (by simp; omega)
            clear m0 m1 m2 m3 m4
            rw [HC.out] at c7
            go_upto_region 5 with fail
            obtain ⟨p, hp⟩ : ∃ p : Nat, min C (rc + rn) = rc + p := ⟨(min C (rc + rn) - rc).toNat, by omega⟩
            have hprn : p ≤ rn := by omega
            have HP : Hid (gone C rc rn Z = (Z.take p).flatten) := by
              show gone C rc rn Z = _
              unfold gone
              rw [hp, show (rc + (p : Int) - rc).toNat = p by omega]
            have hmin : (if rc + (rn : Int) < C then rc + (rn : Int) else C) = rc + p := by rw [← hp]; exact min_ite _ _
            have wp : IntKind.u64.wrap (rc + (p : Int) - rc) = p := by rw [show rc + (p : Int) - rc = p by omega]; exact u64_id (by omega) (by omega)
            go_cut [54, 55, 56] (fun s54 s55 s56 wc => (∃ c5, s54 = .slice ro p c5) ∧ s55 = .int .i64 p ∧ s56 = .int .i64 0 ∧ Below wr.heap.size wr wc)
            case first =>
              have HK : Hid (∀ q, Calls Try.prog 19 #[.pointer (some ⟨wr.heap.size, 0, none⟩)] ((wr.alloc (.cells #[.int .u64 ra, .int .u64 rb, .int .u64 rc, .int .u64 rd, .slice ro rn rcap] 41)).drewN q) fun e w' => e = .returned (.int .u64 (rc + rn)) ∧ ∃ q', w' = ((wr.alloc (.cells #[.int .u64 ra, .int .u64 rb, .int .u64 rc, .int .u64 rd, .slice ro rn rcap] 41)).drewN q).drewN q') :=
                fun q => known_any wr.heap.size rc ro rn rcap _ (by simp [go_sem]) (by simp [go_sem]) src (by omega)
              clear hp HP hpart
              have nn' : H + 3 ≠ wr.heap.size := (World.new_ne wr ⟨H + 3, 2, none⟩ c7).symm
              have c7' : (wr.alloc (.cells #[.int .u64 ra, .int .u64 rb, .int .u64 rc, .int .u64 rd, .slice ro rn rcap] 41)).cell? ⟨H + 3, 2, none⟩ = some (.int .u64 C) := (((Below.refl wr.heap.size wr).alloc (Nat.le_refl _) _).cell (p := ⟨H + 3, 2, none⟩) (World.block_lt_of_cell? wr _ c7)).trans c7
              go_quiet ((go_at_call 19; refine Calls.quiet_of (v := .int .u64 (rc + rn)) ?_; exact HK.out _))
              go_wp2
              go_meet
              case rel => exact ⟨⟨_, rfl⟩, rfl, rfl, below_drewN' ((Below.refl _ _).alloc (Nat.le_refl _) _) _⟩
            case rest =>
              obtain ⟨⟨c5, rfl⟩, rfl, rfl, hb5⟩ := hcut
              obtain ⟨wa, rfl⟩ : ∃ wa : World, wa = wr := ⟨_, rfl⟩
              have hL1 : (parts C xc yc n m X Y k ++ gone C rc rn Z).length ≤ 4294967296 * 2 := by
                rw [← hpart.out]; exact parts_len C xc yc n m X Y HX.out.1 HY.out.1 HLX.out HLY.out hn hm (k + 1)
              have HL1 : Hid ((parts C xc yc n m X Y k ++ gone C rc rn Z).length ≤ 4294967296 * 2) := hL1
              have HM5 : Hid (MapIs wc mb (parts C xc yc n m X Y k ++ (Z.take 0).flatten).length (parts C xc yc n m X Y k ++ (Z.take 0).flatten)) := by
                simp only [List.take_zero, List.flatten_nil, List.append_nil]
                exact hmap.out.later hb5 hmap.out.lt
              have hg5 : wa.grownBy wc (some mb) := ⟨hb5.os, hb5.tape, hb5.output, hb5.size, fun i hi _ => hb5.block i hi⟩
              clear hb5 hmin wp hL1 z0 z1 z2 z3 z4 c7
              go_wp2
              go_loopw [56] (fun i wr => ∃ (j : Nat), i = .int .i64 j ∧ j ≤ p ∧ Hid (MapIs wr mb (parts C xc yc n m X Y k ++ (Z.take j).flatten).length (parts C xc yc n m X Y k ++ (Z.take j).flatten)) ∧ wa.grownBy wr (some mb)) (fun i _ => p - (intOf i).toNat)
              case atStart => exact ⟨0, rfl, by omega, HM5, hg5⟩
              case round =>
                obtain ⟨j, rfl, hj, hmapj, hgj⟩ := hrel
                by_cases hjp : j < p
                · have hrw := hrows.out.past hmap.out.block hgj
                  have hZl : Z.length = rn := hrw.1
                  obtain ⟨_, h | ⟨b, off, rfl, hc⟩⟩ := hrw
                  · omega
                  obtain ⟨ao, l, c, cj, hT⟩ := hc j (by omega)
                  have HT : Hid (TagRow wr ao l (Z.getD j [])) := hT
                  have hl : l ≤ 65536 := by rw [← hT.1]; exact hlen.out j (by omega)
                  clear hc hT
                  obtain ⟨wb, rfl⟩ : ∃ wb : World, wb = wr := ⟨_, rfl⟩
                  obtain ⟨S, hS⟩ : ∃ S, parts C xc yc n m X Y k ++ (Z.take j).flatten = S := ⟨_, rfl⟩
                  have HS : Hid (parts C xc yc n m X Y k ++ (Z.take j).flatten = S) := hS
                  have hSl : S.length + l ≤ 4294967296 * 2 := by
                    have h1 := HL1.out
                    have h2 : (Z.take (j + 1)).flatten.length ≤ (Z.take p).flatten.length := flatten_mono Z (by omega)
                    rw [HP.out, List.length_append] at h1
                    rw [take_snoc Z j (by omega), List.flatten_append, List.length_append] at h2
                    have h3 : [Z.getD j []].flatten.length = l := by rw [← HT.out.1]; simp
                    rw [h3] at h2
                    rw [← hS, List.length_append]
                    omega
                  rw [hS] at hmapj
                  clear hS
                  go_wp2
                  go_loopw [62] (fun i wr => ∃ (t : Nat), i = .int .i64 t ∧ t ≤ l ∧ Hid (MapIs wr mb (S ++ (Z.getD j []).take t).length (S ++ (Z.getD j []).take t)) ∧ wb.grownBy wr (some mb)) (fun i _ => l - (intOf i).toNat)
                  case atStart => exact ⟨0, rfl, by omega, by simpa using hmapj, World.grownBy.refl _ _⟩
                  case round =>
                    obtain ⟨t, rfl, ht, hmapt, hgt⟩ := hrel
                    by_cases htl : t < l
                    · have hTt := HT.out.past hmapj.out.block hgt
                      have hTl : (Z.getD j []).length = l := hTt.1
                      obtain ⟨_, h | ⟨b2, off2, rfl, hc⟩⟩ := hTt
                      · omega
                      obtain ⟨d1, d2⟩ := hc t htl
                      have hgt' : GoodTag ((Z.getD j []).getD t (0, 0)) := hgood.out _ (mem_getD (by omega)) _ (mem_getD' (by omega))
                      have HKEY := keyOf_tag hgt'
                      have HSN : Hid (S ++ (Z.getD j []).take (t + 1) = S ++ (Z.getD j []).take t ++ [(Z.getD j []).getD t (0, 0)]) := by
                        show S ++ (Z.getD j []).take (t + 1) = _
                        rw [take_snoc' _ t (by omega), List.append_assoc]
                      have hlenS : (S ++ (Z.getD j []).take t).length ≤ 4294967296 * 2 := by
                        rw [List.length_append, List.length_take]; omega
                      clear hc hgt'
                      obtain ⟨U, hU⟩ : ∃ U, S ++ (Z.getD j []).take t = U := ⟨_, rfl⟩
                      have HU : Hid (S ++ (Z.getD j []).take t = U) := hU
                      rw [hU] at hlenS hmapt
                      clear hU
                      obtain ⟨tg, htg⟩ : ∃ tg, (Z.getD j []).getD t (0, 0) = tg := ⟨_, rfl⟩
                      have HTG : Hid ((Z.getD j []).getD t (0, 0) = tg) := htg
                      rw [htg] at d1 d2 HKEY
                      clear htg
                      go_wp2_with (at_mapUpdate; refine wpList_mapUpdate_own _ rfl _ _ _ 27 rfl 45 4 Try.keyed45 Try.underlying27 (plainElem Try.prog 4) mb U.length (SET U) rfl (World.ownsMap.alloc hmapt.out _) (by unfold maxLen; omega) _ _ (KEY tg) rfl rfl HKEY tru [] plain_true ?_; intro w6 hown6 hgrow6)
                      go_wp2
                      go_roundw
                      case rel =>
                        refine ⟨t + 1, by go_num, by omega, ?_, grown_trans (grown_trans hgt (World.grownBy_alloc _ _ _)) hgrow6⟩
                        have h6 := MapIs.put hown6 rfl
                        rw [← HTG.out, ← HU.out, ← HSN.out] at h6
                        exact h6
                      case measure => simp [intOf]; omega
                    · have htl' : t = l := by omega
                      have HMN : Hid (MapIs wr mb (parts C xc yc n m X Y k ++ (Z.take (j + 1)).flatten).length (parts C xc yc n m X Y k ++ (Z.take (j + 1)).flatten)) := by
                        have h7 := hmapt.out
                        rw [htl', List.take_of_length_le (Nat.le_of_eq HT.out.1), ← HS.out] at h7
                        have e7 : parts C xc yc n m X Y k ++ (Z.take j).flatten ++ Z.getD j [] = parts C xc yc n m X Y k ++ (Z.take (j + 1)).flatten := by
                          rw [take_snoc Z j (by omega), List.flatten_append]; simp
                        rw [e7] at h7
                        exact h7
                      have hg8 := grown_trans hgj hgt
                      go_wp2
                      go_roundw
                      case rel => exact ⟨j + 1, by go_num, by omega, HMN, hg8⟩
                      case measure => simp [intOf]; omega
                · have hjp' : j = p := by omega
                  have HMN : Hid (MapIs wr mb (parts C xc yc n m X Y (k + 1)).length (parts C xc yc n m X Y (k + 1))) := by
                    have h7 := hmapj.out
                    rw [hjp', ← HP.out, ← hpart.out] at h7
                    exact h7
                  have hg8 := grown_trans hgr hgj
                  go_wp2
                  go_roundw
                  case rel => exact ⟨k + 1, by go_num, by omega, HMN, hg8⟩
                  case measure => simp [intOf]; omega
          · have hk2 : k = 2 := by omega
            subst hk2
            obtain ⟨W3, rfl⟩ : ∃ W3 : World, W3 = wr := ⟨_, rfl⟩
            have HM3 : Hid (MapIs W3 mb (parts C xc yc n m X Y 2).length (parts C xc yc n m X Y 2)) := hmap
            clear hmap T1 T2 HM2 hk hlt
            have ER1 : Hid (Rec5 W3 H rx xa xc xs (.slice xo n cx)) := GR1.out.grown hgr (by omega)
            have ER2 : Hid (Rec5 W3 (H + 1) ry ya yc ys (.slice yo m cy)) := GR2.out.grown hgr (by omega)
            have ER3 : Hid (Rec5 W3 (H + 2) 0 0 0 0 (.slice none 0 0)) := GR3.out.grown hgr (by omega)
            have ER7 : Hid (Rec5 W3 (H + 3) rx (max xa ya) C (max xs (max ys (min (xc + n) (yc + m)))) (.slice none 0 0)) := by
              have h := GR7.out.grown hgr (show H + 3 ≠ mb by omega)
              rw [HC.out] at h
              exact h
            have hgw : w.grownBy W3 (some mb) := grown_trans ⟨hbw.os, hbw.tape, hbw.output, hbw.size, fun i hi _ => hbw.block i (by omega)⟩ hgr
            have hs3 : H + 5 ≤ W3.heap.size := by rw [← hs2]; exact hgr.size
            obtain ⟨K, hK⟩ : ∃ K, max (xc + n) (yc + m) = K := ⟨_, rfl⟩
            have hc0 := HC.out
            obtain ⟨L, hL⟩ : ∃ L : Nat, K = C + L := ⟨(K - C).toNat, by omega⟩
            have HK : Hid (max (xc + n) (yc + m) = K) := hK
            have hL2 : L ≤ 65536 := by omega
            clear hc0
            have hxK : xc + n ≤ K := by omega
            have hyK : yc + m ≤ K := by omega
            clear hK GR1 GR2 GR3 GR7 HX2 HY2 hgr hbw hs2
            go_upto_region 15 with fail
            go_cut [14] (fun s14 wc => s14 = .int .u64 K ∧ Below W3.heap.size W3 wc ∧ wc.heap.size = W3.heap.size)
            case first =>
              obtain ⟨k0, k1, k2, k3, k4, _⟩ := ER1.out
              obtain ⟨l0, l1, l2, l3, l4, _⟩ := ER2.out
              have hmax : (if xc + (n : Int) < yc + m then yc + (m : Int) else xc + n) = K := (max_ite _ _).trans HK.out
              clear hL hxK hyK
              go_wp2_with (go_at_call_of 19 (Value.pointer (some ⟨H, 0, none⟩)); refine (known_any H xc xo n cx _ k2 k4 sx (by omega)).mono ?_; rintro e w' ⟨rfl, q, rfl⟩)
              refine (known_any (H + 1) yc yo m cy (W3.drewN q) l2 l4 sy (by omega)).mono ?_
              rintro e w' ⟨rfl, q', rfl⟩
              go_wp2
              go_meet
              case rel =>
                refine ⟨rfl, ?_, by simp⟩
                repeat' (first | exact Below.refl _ _ | with_reducible refine below_drewN' ?_ _)
            case rest =>
              obtain ⟨rfl, hb4, hs4⟩ := hcut
              obtain ⟨W4, rfl⟩ : ∃ W4 : World, W4 = wc := ⟨_, rfl⟩
              obtain ⟨m0, m1, m2, m3, m4, m5⟩ := ER7.out.later hb4 (by omega)
              obtain ⟨i9, hi9, y0, y1, y2⟩ := info_parts Try.info49
              have wL : IntKind.u64.wrap (K - C) = L := by rw [show K - C = (L : Int) by omega]; exact u64_id (by omega) (by omega)
              have sC : Small C := by
                have h1 := HC.out
                obtain ⟨a1, a2⟩ := sx
                obtain ⟨a3, a4⟩ := sy
                exact ⟨by omega, by omega⟩
              have wC : IntKind.u64.wrap (C + 1) = C + 1 := wrap_add sC (by omega) (by omega)
              have f4 := m5 4
              go_wp2_with (at_make; refine wpList_make_own _ rfl _ _ 38 rfl W4.heap.size 49 i9 _ 1 Try.underlying38 hi9 y0 y1 _ _ _ L rfl rfl (by omega) (by rw [y2]; omega) (by unfold maxLen; omega) (Nat.le_refl _) ?_; intro w5 hown5 hg5; have e2 := hg5.cell m2 (by simp); have e4 := hg5.cell m4 (by simp); have ef := (hg5.frozen_far ⟨H + 3, 4, none⟩ (World.block_lt_of_cell? W4 _ m4) (by simp)).trans f4)
              have hbase : H + 5 ≤ W4.heap.size := by rw [hs4]; exact hs3
              have hgset := grownBy_set w5 ⟨H + 3, 4, none⟩ (.slice (some ⟨W3.heap.size, 0, none⟩) 0 L)
              have hg35 : W3.grownBy w5 none := ⟨hg5.os.trans hb4.os, hg5.tape.trans hb4.tape, hg5.output.trans hb4.output, Nat.le_trans hb4.size hg5.size, fun i hi hn => (hg5.block i (Nat.lt_of_lt_of_le hi hb4.size) hn).trans (hb4.block i hi)⟩
              have hg35' : W3.grownBy w5 (some (H + 3)) := ⟨hg35.os, hg35.tape, hg35.output, hg35.size, fun i hi _ => hg35.block i hi (by simp)⟩
              have HKP : Hid (Keep4 w H mb (parts C xc yc n m X Y 2) rx xa xc xs (.slice xo n cx) ry ya yc ys (.slice yo m cy) (w5.setCell ⟨H + 3, 4, none⟩ (.slice (some ⟨W3.heap.size, 0, none⟩) 0 L))) :=
                Keep4.grown (Keep4.grown (⟨ER1.out, ER2.out, ER3.out, HM3.out, hgw⟩ : Keep4 w H mb (parts C xc yc n m X Y 2) rx xa xc xs (.slice xo n cx) ry ya yc ys (.slice yo m cy) W3) hg35' (Nat.le_refl _) hmb hH) hgset (Nat.le_refl _) hmb hH
              have HR7 : Hid (Rec5 (w5.setCell ⟨H + 3, 4, none⟩ (.slice (some ⟨W3.heap.size, 0, none⟩) 0 L)) (H + 3) rx (max xa ya) C (max xs (max ys (min (xc + n) (yc + m)))) (.slice (some ⟨W3.heap.size, 0, none⟩) 0 L)) :=
                Rec5.set4 (ER7.out.grown (g := W3.heap.size) ⟨hg35.os, hg35.tape, hg35.output, hg35.size, fun i hi _ => hg35.block i hi (by simp)⟩ (by omega)) _
              have HOW : (w5.setCell ⟨H + 3, 4, none⟩ (.slice (some ⟨W3.heap.size, 0, none⟩) 0 L)).ownsRow W4.heap.size 49 1 (.slice (some ⟨W3.heap.size, 0, none⟩) 0 L) 0 [] := by
                have h := hown5
                rw [hs4] at h ⊢
                exact h.kept hgset (.inr (by simp [Value.ownBlock]; omega))
              have hsz : W4.heap.size ≤ (w5.setCell ⟨H + 3, 4, none⟩ (.slice (some ⟨W3.heap.size, 0, none⟩) 0 L)).heap.size := Nat.le_trans hg5.size hgset.size
              clear hgset hg35 hg35' ER1 ER2 ER3 HM3 hgw hown5 e2 e4 ef m0 m1 m2 m3 m4 m5 f4 hg5
              go_loopw [15] (fun i wr => ∃ (j g cap : Nat) (vs : List Value), i = .int .u64 (C + 1 + j) ∧ j ≤ L ∧ Hid (Keep4 w H mb (parts C xc yc n m X Y 2) rx xa xc xs (.slice xo n cx) ry ya yc ys (.slice yo m cy) wr) ∧
                Hid (Rec5 wr (H + 3) rx (max xa ya) C (max xs (max ys (min (xc + n) (yc + m)))) (.slice (some ⟨g, 0, none⟩) j cap)) ∧ wr.ownsRow W4.heap.size 49 1 (.slice (some ⟨g, 0, none⟩) j cap) j vs ∧ Hid (Got w (mrg C xc yc n X Y) j vs) ∧ W4.heap.size ≤ wr.heap.size) (fun i _ => (C + 1 + L - intOf i).toNat)
              case atStart => exact ⟨0, W3.heap.size, L, [], by simp, by omega, HKP, HR7, HOW, fun t ht => by omega, hsz⟩
              case round =>
                obtain ⟨j, g, cap, vs, rfl, hj, hkp, hr7, hown, hgot, hszr⟩ := hrel
                clear HKP HR7 HOW hsz
                by_cases hjL : j < L
                · obtain ⟨k0, k1, k2, k3, k4, _⟩ := hkp.out.1
                  obtain ⟨l0, l1, l2, l3, l4, _⟩ := hkp.out.2.1
                  obtain ⟨m0, m1, m2, m3, m4, m5⟩ := hr7.out
                  have wj : IntKind.u64.wrap (C + 1 + j + 1) = C + 1 + j + 1 := by rw [show C + 1 + (j : Int) + 1 = C + ((j : Int) + 2) by omega]; exact wrap_add sC (by omega) (by omega)
                  by_cases hle : C + 1 + j ≤ xc + n
                  · obtain ⟨p1, hp1⟩ : ∃ p : Nat, C + 1 + j - xc - 1 = (p : Int) := ⟨(C + 1 + j - xc - 1).toNat, by omega⟩
                    have v1 : IntKind.u64.wrap (C + 1 + j - xc) = C + 1 + j - xc := u64_id (by omega) (by omega)
                    have v2 : IntKind.u64.wrap (C + 1 + j - xc - 1) = p1 := by rw [u64_id (by omega) (by omega)]; exact hp1
                    have hp1n : p1 < n := by omega
                    obtain ⟨ao, l, c, hcell, hT⟩ : ∃ ao l c, (∃ b off, xo = some ⟨b, off, none⟩ ∧ w.cell? ⟨b, off + p1, none⟩ = some (.slice ao l c)) ∧ TagRow w ao l (X.getD p1 []) := by
                      obtain ⟨_, h | ⟨b, off, hxo, hc⟩⟩ := HX.out
                      · omega
                      obtain ⟨ao, l, c, c1, c2⟩ := hc p1 hp1n
                      exact ⟨ao, l, c, ⟨b, off, hxo, c1⟩, c2⟩
                    obtain ⟨b, off, rfl, c1⟩ := hcell
                    have hbH : b < H := by rw [← hH]; exact World.block_lt_of_cell? w _ c1
                    obtain ⟨es, cl, hmm⟩ := HM.out.block
                    have hbm : b ≠ mb := cell_not_map c1 hmm
                    have c2 : wr.cell? ⟨b, off + p1, none⟩ = some (.slice ao l c) := hkp.out.2.2.2.2.cell c1 (by simpa using hbm)
                    have HT : Hid (TagRow w ao l (mrg C xc yc n X Y j)) := by
                      show TagRow w ao l (mrg C xc yc n X Y j)
                      unfold mrg
                      rw [if_pos hle, show (C + (j : Int) - xc).toNat = p1 by omega]
                      exact hT
                    have HP1 : Hid (C + 1 + j - xc - 1 = (p1 : Int)) := hp1
                    clear hT hmm c1 hp1
                    go_upto_region 21 with (go_at_call_of 19 (Value.pointer (some ⟨H, 0, none⟩)); refine (known_any H xc _ n cx _ k2 k4 sx (by omega)).mono ?_; rintro e w' ⟨rfl, q, rfl⟩)
                    have hown' : (wr.drewN q).ownsRow W4.heap.size 49 1 (.slice (some ⟨g, 0, none⟩) j cap) j vs := hown
                    have a1 : (wr.drewN q).cell? ⟨H + 3, 4, none⟩ = some (.slice (some ⟨g, 0, none⟩) j cap) := m4
                    have a2 : (wr.drewN q).cell? ⟨H, 4, none⟩ = some (.slice (some ⟨b, off, none⟩) n cx) := k4
                    have a3 : (wr.drewN q).cell? ⟨H, 2, none⟩ = some (.int .u64 xc) := k2
                    have a4 : (wr.drewN q).cell? ⟨b, off + p1, none⟩ = some (.slice ao l c) := c2
                    have a5 : (wr.drewN q).frozen? ⟨H + 3, 4, none⟩ = false := m5 4
                    have hsz' : W4.heap.size ≤ (wr.drewN q).heap.size := hszr
                    have HKP' : Hid (Keep4 w H mb (parts C xc yc n m X Y 2) rx xa xc xs (.slice (some ⟨b, off, none⟩) n cx) ry ya yc ys (.slice yo m cy) (wr.drewN q)) := hkp.out.drewN q
                    have HR7' : Hid (Rec5 (wr.drewN q) (H + 3) rx (max xa ya) C (max xs (max ys (min (xc + n) (yc + m)))) (.slice (some ⟨g, 0, none⟩) j cap)) := hr7
                    have hgg := (hown.lt g rfl).1
                    clear hown k0 k1 k2 k3 k4 l0 l1 l2 l3 l4 m0 m1 m2 m3 m4 m5 c2 hkp hr7 hszr
                    generalize wr.drewN q = wq at hown' a1 a2 a3 a4 a5 hsz' HKP' HR7' ⊢
                    have n1 := World.new_ne wq _ a1
                    have n2 := World.new_ne wq _ a2
                    have n4 := World.new_ne wq _ a4
                    have x1 : wq.heap.size ≠ H + 3 := n1
                    have x2 : wq.heap.size ≠ H := n2
                    have x4 : wq.heap.size ≠ b := n4
                    have a6 : ∀ o, (wq.alloc o).frozen? ⟨H + 3, 4, none⟩ = false := fun o => (World.frozen?_alloc_old wq o _ x1.symm).trans a5
                    have i1 : (0 : Int) ≤ (p1 : Int) := by omega
                    have i2 : (p1 : Int) < (n : Int) := by omega
                    refine wp_region_noPanic ?_
                    refine wp_region_held_drew (S := fun w' => w'.cell? ⟨H, 4, none⟩ = some (.slice (some ⟨b, off, none⟩) n cx) ∧ w'.cell? ⟨H, 2, none⟩ = some (.int .u64 xc) ∧ w'.cell? ⟨b, off + p1, none⟩ = some (.slice ao l c) ∧ w'.frozen? ⟨H + 3, 4, none⟩ = false) (by kernel_rfl) ⟨a2, a3, a4, a5⟩ (fun hHeld => ?_)
                    refine wpAnyH_take (i := 0) (v := .pointer (some ⟨H + 3, 4, none⟩)) rfl (by kernel_rfl) (by kernel_rfl) (by kernel_rfl) (fun _ _ _ h => h) (Or.inl ⟨by rfl, ?_⟩) (by assumption) ?_
                    · (intro w0 hSw; obtain ⟨s1, s2, s3, s4⟩ := hSw; go_simp)
                    try simp only [Act.put, List.setIfInBounds_toArray, List.set_cons_zero, List.set_cons_succ]
                    refine wpAnyH_take (i := 2) (v := .pointer (some ⟨H, 4, none⟩)) rfl (by kernel_rfl) (by kernel_rfl) (by kernel_rfl) (fun _ _ _ h => h) (Or.inl ⟨by rfl, ?_⟩) (by assumption) ?_
                    · (intro w0 hSw; obtain ⟨s1, s2, s3, s4⟩ := hSw; go_simp)
                    try simp only [Act.put, List.setIfInBounds_toArray, List.set_cons_zero, List.set_cons_succ]
                    refine wpAnyH_take (i := 3) (v := .slice (some ⟨b, off, none⟩) n cx) rfl (by kernel_rfl) (by kernel_rfl) (by kernel_rfl) (fun _ _ _ h => h) (Or.inl ⟨by rfl, ?_⟩) (by assumption) ?_
                    · (intro w0 hSw; obtain ⟨s1, s2, s3, s4⟩ := hSw; go_simp)
                    try simp only [Act.put, List.setIfInBounds_toArray, List.set_cons_zero, List.set_cons_succ]
                    refine wpAnyH_take (i := 4) (v := .int .u64 (C + 1 + j)) rfl (by kernel_rfl) (by kernel_rfl) (by kernel_rfl) (fun _ _ _ h => h) (Or.inl ⟨by rfl, ?_⟩) (by assumption) ?_
                    · (intro w0 hSw; obtain ⟨s1, s2, s3, s4⟩ := hSw; go_simp)
                    try simp only [Act.put, List.setIfInBounds_toArray, List.set_cons_zero, List.set_cons_succ]
                    refine wpAnyH_take (i := 5) (v := .pointer (some ⟨H, 2, none⟩)) rfl (by kernel_rfl) (by kernel_rfl) (by kernel_rfl) (fun _ _ _ h => h) (Or.inl ⟨by rfl, ?_⟩) (by assumption) ?_
                    · (intro w0 hSw; obtain ⟨s1, s2, s3, s4⟩ := hSw; go_simp)
                    try simp only [Act.put, List.setIfInBounds_toArray, List.set_cons_zero, List.set_cons_succ]
                    refine wpAnyH_take (i := 6) (v := .int .u64 (xc)) rfl (by kernel_rfl) (by kernel_rfl) (by kernel_rfl) (fun _ _ _ h => h) (Or.inl ⟨by rfl, ?_⟩) (by assumption) ?_
                    · (intro w0 hSw; obtain ⟨s1, s2, s3, s4⟩ := hSw; go_simp)
                    try simp only [Act.put, List.setIfInBounds_toArray, List.set_cons_zero, List.set_cons_succ]
                    refine wpAnyH_take (i := 7) (v := .int .u64 (C + 1 + j - xc)) rfl (by kernel_rfl) (by kernel_rfl) (by kernel_rfl) (fun _ _ _ h => h) (Or.inl ⟨by rfl, ?_⟩) (by assumption) ?_
                    · (intro w0 hSw; obtain ⟨s1, s2, s3, s4⟩ := hSw; go_simp)
                    try simp only [Act.put, List.setIfInBounds_toArray, List.set_cons_zero, List.set_cons_succ]
                    refine wpAnyH_take (i := 8) (v := .int .u64 ((p1 : Int))) rfl (by kernel_rfl) (by kernel_rfl) (by kernel_rfl) (fun _ _ _ h => h) (Or.inl ⟨by rfl, ?_⟩) (by assumption) ?_
                    · (intro w0 hSw; obtain ⟨s1, s2, s3, s4⟩ := hSw; go_simp)
                    try simp only [Act.put, List.setIfInBounds_toArray, List.set_cons_zero, List.set_cons_succ]
                    refine wpAnyH_take (i := 9) (v := .pointer (some ⟨b, off + p1, none⟩)) rfl (by kernel_rfl) (by kernel_rfl) (by kernel_rfl) (fun _ _ _ h => h) (Or.inl ⟨by rfl, ?_⟩) (by assumption) ?_
                    · (intro w0 hSw; obtain ⟨s1, s2, s3, s4⟩ := hSw; go_simp)
                    try simp only [Act.put, List.setIfInBounds_toArray, List.set_cons_zero, List.set_cons_succ]
                    refine wpAnyH_take (i := 10) (v := .slice ao l c) rfl (by kernel_rfl) (by kernel_rfl) (by kernel_rfl) (fun _ _ _ h => h) (Or.inl ⟨by rfl, ?_⟩) (by assumption) ?_
                    · (intro w0 hSw; obtain ⟨s1, s2, s3, s4⟩ := hSw; go_simp)
                    try simp only [Act.put, List.setIfInBounds_toArray, List.set_cons_zero, List.set_cons_succ]
                    refine wpAnyH_ready (rs := [1, 11]) (by kernel_rfl) (by simp) ?_
                    refine AllReadyH.cons rfl (fun K hK => ?_) ?_
                    · skip
                      go_simp
                      clear hHeld
                      refine hK.out _ _ ⟨a2, a3, a4, a5⟩ (fun hHeld => ?_)
                      clear hK K
                      try simp only [Act.put, List.setIfInBounds_toArray, List.set_cons_zero, List.set_cons_succ]
                      refine wpAnyH_ready (rs := [11]) (by kernel_rfl) (by simp) ?_
                      refine AllReadyH.cons rfl (fun K hK => ?_) ?_
                      · skip
                        go_simp
                        clear hHeld
                        refine hK.out _ _ ⟨(alloc_cell wq _ _ a2), (alloc_cell wq _ _ a3), (alloc_cell wq _ _ a4), a6 _⟩ (fun hHeld => ?_)
                        clear hK K
                        try simp only [Act.put, List.setIfInBounds_toArray, List.set_cons_zero, List.set_cons_succ]
                        refine wpAnyH_ready (rs := [12]) (by kernel_rfl) (by simp) ?_
                        refine AllReadyH.cons rfl (fun K hK => ?_) ?_
                        · skip
                          (refine step_append_lies _ (by rfl) _ _ _ (by rfl) W4.heap.size 49 i9 _ 1 24 Try.underlying38 hi9 y0 y1 y2 rfl (by omega) (.slice (some ⟨g, 0, none⟩) j cap) j vs (by rfl) ((hown'.alloc _).drew) ⟨wq.heap.size, 0, none⟩ 1 1 [.slice ao l c] (by rfl) (by rfl) (World.news_of_block (cs := #[.slice ao l c]) (t := 49) (fr := (0, 0)) (heap_alloc_new wq _)) (by simp [Value.oneCell']) (by omega) (by unfold maxLen; omega) (by omega) (by simp; omega) (wq.heap.size + 1) (by simp) ?_; intro gg cap' w1 hown1 hgrow hat hlt1)
                          have b1 : w1.cell? ⟨H + 3, 4, none⟩ = some (.slice (some ⟨g, 0, none⟩) j cap) := (hgrow.cell_far _ (by simp; omega) (by simp [Value.ownBlock]; omega)).trans (alloc_cell wq _ _ a1)
                          have hHeld' := hHeld; clear hHeld
                          refine hK.out _ _ ⟨(hgrow.cell_far _ (by simp; omega) (by simp [Value.ownBlock]; omega)).trans hHeld'.1, (hgrow.cell_far _ (by simp; omega) (by simp [Value.ownBlock]; omega)).trans hHeld'.2.1, (hgrow.cell_far _ (by simp; omega) (by simp [Value.ownBlock]; omega)).trans hHeld'.2.2.1, (hgrow.frozen_far _ (by simp; omega) (by simp [Value.ownBlock]; omega)).trans hHeld'.2.2.2⟩ (fun hHeld => ?_)
                          clear hK K
                          try simp only [Act.put, List.setIfInBounds_toArray, List.set_cons_zero, List.set_cons_succ]
                          refine wpAnyH_take (i := 13) (v := .pointer (some ⟨H + 3, 4, none⟩)) rfl (by kernel_rfl) (by kernel_rfl) (by kernel_rfl) (fun _ _ _ h => h) (Or.inl ⟨by rfl, ?_⟩) (by assumption) ?_
                          · (intro w0 hSw; clear hSw; go_simp)
                          try simp only [Act.put, List.setIfInBounds_toArray, List.set_cons_zero, List.set_cons_succ]
                          refine wpAnyH_ready (rs := [14]) (by kernel_rfl) (by simp) ?_
                          refine AllReadyH.cons rfl (fun K hK => ?_) ?_
                          · skip
                            obtain ⟨s1, s2, s3, s4⟩ := hHeld
                            go_simp
                            refine hK.out _ _ ⟨?_, ?_, ?_, ?_⟩ (fun hHeld => ?_)
                            · exact (set_far _ _ _ _ (by simp <;> omega)).trans s1
                            · exact (set_far _ _ _ _ (by simp <;> omega)).trans s2
                            · exact (set_far _ _ _ _ (by simp <;> omega)).trans s3
                            · simp [go_sem, s4]
                            clear hK K hHeld
                            try simp only [Act.put, List.setIfInBounds_toArray, List.set_cons_zero, List.set_cons_succ]
                            refine wpAnyH_done (by kernel_rfl) ?_ _
                            refine NoPanic.normal ?_
                            go_wp2
                            go_roundw
                            case rel =>
                              have hgd : (wq.alloc (.cells #[.slice ao l c] 49)).grownBy (wq.alloc (.cells #[.slice ao l c] 49)).drew (some g) := ⟨rfl, rfl, rfl, Nat.le_refl _, fun _ _ _ => rfl⟩
                              have hgrow' : (wq.alloc (.cells #[.slice ao l c] 49)).drew.grownBy w1 (some g) := hgrow
                              have hgw1 : wq.grownBy w1 (some g) := grown_trans (grown_trans (World.grownBy_alloc wq (.cells #[.slice ao l c] 49) (some g)) hgd) hgrow'
                              have hset := grownBy_set w1 ⟨H + 3, 4, none⟩ (.slice (some ⟨gg, 0, none⟩) (j + 1) cap')
                              refine ⟨j + 1, gg, cap', vs ++ [.slice ao l c], ?_, by omega, ?_, ?_, ?_, ?_, ?_⟩
                              · simp [Int.add_assoc]
                              · exact Keep4.grown (Keep4.grown HKP'.out hgw1 (by omega) hmb hH) hset (Nat.le_refl _) hmb hH
                              · exact Rec5.set4 (HR7'.out.grown hgw1 (by omega)) _
                              · exact hown1.kept hset (.inr (by have := (hown1.lt gg rfl).1; simp [Value.ownBlock]; omega))
                              · exact hgot.out.next (by have := hown'.1; omega) ao l c HT.out
                              · exact Nat.le_trans hsz' (Nat.le_trans hgw1.size hset.size)
                            case measure => simp [intOf]; omega
                          exact AllReadyH.nil
                        exact AllReadyH.nil
                      exact AllReadyH.nil
                    refine AllReadyH.cons rfl (fun K hK => ?_) ?_
                    · skip
                      go_simp
                      clear hHeld
                      refine hK.out _ _ ⟨(alloc_cell wq _ _ a2), (alloc_cell wq _ _ a3), (alloc_cell wq _ _ a4), a6 _⟩ (fun hHeld => ?_)
                      clear hK K
                      try simp only [Act.put, List.setIfInBounds_toArray, List.set_cons_zero, List.set_cons_succ]
                      have a1' := alloc_cell wq (.cells #[.slice ao l c] 49) _ a1
                      refine wpAnyH_ready (rs := [1]) (by kernel_rfl) (by simp) ?_
                      refine AllReadyH.cons rfl (fun K hK => ?_) ?_
                      · skip
                        go_simp
                        clear hHeld
                        refine hK.out _ _ ⟨(alloc_cell wq _ _ a2), (alloc_cell wq _ _ a3), (alloc_cell wq _ _ a4), a6 _⟩ (fun hHeld => ?_)
                        clear hK K
                        try simp only [Act.put, List.setIfInBounds_toArray, List.set_cons_zero, List.set_cons_succ]
                        refine wpAnyH_ready (rs := [12]) (by kernel_rfl) (by simp) ?_
                        refine AllReadyH.cons rfl (fun K hK => ?_) ?_
                        · skip
                          (refine step_append_lies _ (by rfl) _ _ _ (by rfl) W4.heap.size 49 i9 _ 1 24 Try.underlying38 hi9 y0 y1 y2 rfl (by omega) (.slice (some ⟨g, 0, none⟩) j cap) j vs (by rfl) ((hown'.alloc _).drew) ⟨wq.heap.size, 0, none⟩ 1 1 [.slice ao l c] (by rfl) (by rfl) (World.news_of_block (cs := #[.slice ao l c]) (t := 49) (fr := (0, 0)) (heap_alloc_new wq _)) (by simp [Value.oneCell']) (by omega) (by unfold maxLen; omega) (by omega) (by simp; omega) (wq.heap.size + 1) (by simp) ?_; intro gg cap' w1 hown1 hgrow hat hlt1)
                          have b1 : w1.cell? ⟨H + 3, 4, none⟩ = some (.slice (some ⟨g, 0, none⟩) j cap) := (hgrow.cell_far _ (by simp; omega) (by simp [Value.ownBlock]; omega)).trans (alloc_cell wq _ _ a1)
                          have hHeld' := hHeld; clear hHeld
                          refine hK.out _ _ ⟨(hgrow.cell_far _ (by simp; omega) (by simp [Value.ownBlock]; omega)).trans hHeld'.1, (hgrow.cell_far _ (by simp; omega) (by simp [Value.ownBlock]; omega)).trans hHeld'.2.1, (hgrow.cell_far _ (by simp; omega) (by simp [Value.ownBlock]; omega)).trans hHeld'.2.2.1, (hgrow.frozen_far _ (by simp; omega) (by simp [Value.ownBlock]; omega)).trans hHeld'.2.2.2⟩ (fun hHeld => ?_)
                          clear hK K
                          try simp only [Act.put, List.setIfInBounds_toArray, List.set_cons_zero, List.set_cons_succ]
                          refine wpAnyH_take (i := 13) (v := .pointer (some ⟨H + 3, 4, none⟩)) rfl (by kernel_rfl) (by kernel_rfl) (by kernel_rfl) (fun _ _ _ h => h) (Or.inl ⟨by rfl, ?_⟩) (by assumption) ?_
                          · (intro w0 hSw; clear hSw; go_simp)
                          try simp only [Act.put, List.setIfInBounds_toArray, List.set_cons_zero, List.set_cons_succ]
                          refine wpAnyH_ready (rs := [14]) (by kernel_rfl) (by simp) ?_
                          refine AllReadyH.cons rfl (fun K hK => ?_) ?_
                          · skip
                            obtain ⟨s1, s2, s3, s4⟩ := hHeld
                            go_simp
                            refine hK.out _ _ ⟨?_, ?_, ?_, ?_⟩ (fun hHeld => ?_)
                            · exact (set_far _ _ _ _ (by simp <;> omega)).trans s1
                            · exact (set_far _ _ _ _ (by simp <;> omega)).trans s2
                            · exact (set_far _ _ _ _ (by simp <;> omega)).trans s3
                            · simp [go_sem, s4]
                            clear hK K hHeld
                            try simp only [Act.put, List.setIfInBounds_toArray, List.set_cons_zero, List.set_cons_succ]
                            refine wpAnyH_done (by kernel_rfl) ?_ _
                            refine NoPanic.normal ?_
                            go_wp2
                            go_roundw
                            case rel =>
                              have hgd : (wq.alloc (.cells #[.slice ao l c] 49)).grownBy (wq.alloc (.cells #[.slice ao l c] 49)).drew (some g) := ⟨rfl, rfl, rfl, Nat.le_refl _, fun _ _ _ => rfl⟩
                              have hgrow' : (wq.alloc (.cells #[.slice ao l c] 49)).drew.grownBy w1 (some g) := hgrow
                              have hgw1 : wq.grownBy w1 (some g) := grown_trans (grown_trans (World.grownBy_alloc wq (.cells #[.slice ao l c] 49) (some g)) hgd) hgrow'
                              have hset := grownBy_set w1 ⟨H + 3, 4, none⟩ (.slice (some ⟨gg, 0, none⟩) (j + 1) cap')
                              refine ⟨j + 1, gg, cap', vs ++ [.slice ao l c], ?_, by omega, ?_, ?_, ?_, ?_, ?_⟩
                              · simp [Int.add_assoc]
                              · exact Keep4.grown (Keep4.grown HKP'.out hgw1 (by omega) hmb hH) hset (Nat.le_refl _) hmb hH
                              · exact Rec5.set4 (HR7'.out.grown hgw1 (by omega)) _
                              · exact hown1.kept hset (.inr (by have := (hown1.lt gg rfl).1; simp [Value.ownBlock]; omega))
                              · exact hgot.out.next (by have := hown'.1; omega) ao l c HT.out
                              · exact Nat.le_trans hsz' (Nat.le_trans hgw1.size hset.size)
                            case measure => simp [intOf]; omega
                          exact AllReadyH.nil
                        exact AllReadyH.nil
                      exact AllReadyH.nil
                    exact AllReadyH.nil
                  · have hKy : yc + m = C + L := by
                      have h0 := HK.out
                      omega
                    obtain ⟨p1, hp1⟩ : ∃ p : Nat, C + 1 + j - yc - 1 = (p : Int) := ⟨(C + 1 + j - yc - 1).toNat, by omega⟩
                    have v1 : IntKind.u64.wrap (C + 1 + j - yc) = C + 1 + j - yc := u64_id (by omega) (by omega)
                    have v2 : IntKind.u64.wrap (C + 1 + j - yc - 1) = p1 := by rw [u64_id (by omega) (by omega)]; exact hp1
                    have hp1n : p1 < m := by omega
                    obtain ⟨ao, l, c, hcell, hT⟩ : ∃ ao l c, (∃ b off, yo = some ⟨b, off, none⟩ ∧ w.cell? ⟨b, off + p1, none⟩ = some (.slice ao l c)) ∧ TagRow w ao l (Y.getD p1 []) := by
                      obtain ⟨_, h | ⟨b, off, hyo, hc⟩⟩ := HY.out
                      · omega
                      obtain ⟨ao, l, c, c1, c2⟩ := hc p1 hp1n
                      exact ⟨ao, l, c, ⟨b, off, hyo, c1⟩, c2⟩
                    obtain ⟨b, off, rfl, c1⟩ := hcell
                    have hbH : b < H := by rw [← hH]; exact World.block_lt_of_cell? w _ c1
                    obtain ⟨es, cl, hmm⟩ := HM.out.block
                    have hbm : b ≠ mb := cell_not_map c1 hmm
                    have c2 : wr.cell? ⟨b, off + p1, none⟩ = some (.slice ao l c) := hkp.out.2.2.2.2.cell c1 (by simpa using hbm)
                    have HT : Hid (TagRow w ao l (mrg C xc yc n X Y j)) := by
                      show TagRow w ao l (mrg C xc yc n X Y j)
                      unfold mrg
                      rw [if_neg hle, show (C + (j : Int) - yc).toNat = p1 by omega]
                      exact hT
                    have HP1 : Hid (C + 1 + j - yc - 1 = (p1 : Int)) := hp1
                    clear hT hmm c1 hp1 hKy
                    go_upto_region 22 with (go_at_call_of 19 (Value.pointer (some ⟨H, 0, none⟩)); refine (known_any H xc _ n cx _ k2 k4 sx (by omega)).mono ?_; rintro e w' ⟨rfl, q, rfl⟩)
                    have hown' : (wr.drewN q).ownsRow W4.heap.size 49 1 (.slice (some ⟨g, 0, none⟩) j cap) j vs := hown
                    have a1 : (wr.drewN q).cell? ⟨H + 3, 4, none⟩ = some (.slice (some ⟨g, 0, none⟩) j cap) := m4
                    have a2 : (wr.drewN q).cell? ⟨H + 1, 4, none⟩ = some (.slice (some ⟨b, off, none⟩) m cy) := l4
                    have a3 : (wr.drewN q).cell? ⟨H + 1, 2, none⟩ = some (.int .u64 yc) := l2
                    have a4 : (wr.drewN q).cell? ⟨b, off + p1, none⟩ = some (.slice ao l c) := c2
                    have a5 : (wr.drewN q).frozen? ⟨H + 3, 4, none⟩ = false := m5 4
                    have hsz' : W4.heap.size ≤ (wr.drewN q).heap.size := hszr
                    have HKP' : Hid (Keep4 w H mb (parts C xc yc n m X Y 2) rx xa xc xs (.slice xo n cx) ry ya yc ys (.slice (some ⟨b, off, none⟩) m cy) (wr.drewN q)) := hkp.out.drewN q
                    have HR7' : Hid (Rec5 (wr.drewN q) (H + 3) rx (max xa ya) C (max xs (max ys (min (xc + n) (yc + m)))) (.slice (some ⟨g, 0, none⟩) j cap)) := hr7
                    have hgg := (hown.lt g rfl).1
                    clear hown k0 k1 k2 k3 k4 l0 l1 l2 l3 l4 m0 m1 m2 m3 m4 m5 c2 hkp hr7 hszr
                    generalize wr.drewN q = wq at hown' a1 a2 a3 a4 a5 hsz' HKP' HR7' ⊢
                    have n1 := World.new_ne wq _ a1
                    have n2 := World.new_ne wq _ a2
                    have n4 := World.new_ne wq _ a4
                    have x1 : wq.heap.size ≠ H + 3 := n1
                    have x2 : wq.heap.size ≠ H + 1 := n2
                    have x4 : wq.heap.size ≠ b := n4
                    have a6 : ∀ o, (wq.alloc o).frozen? ⟨H + 3, 4, none⟩ = false := fun o => (World.frozen?_alloc_old wq o _ x1.symm).trans a5
                    have i1 : (0 : Int) ≤ (p1 : Int) := by omega
                    have i2 : (p1 : Int) < (m : Int) := by omega
                    refine wp_region_noPanic ?_
                    refine wp_region_held_drew (S := fun w' => w'.cell? ⟨H + 1, 4, none⟩ = some (.slice (some ⟨b, off, none⟩) m cy) ∧ w'.cell? ⟨H + 1, 2, none⟩ = some (.int .u64 yc) ∧ w'.cell? ⟨b, off + p1, none⟩ = some (.slice ao l c) ∧ w'.frozen? ⟨H + 3, 4, none⟩ = false) (by kernel_rfl) ⟨a2, a3, a4, a5⟩ (fun hHeld => ?_)
                    refine wpAnyH_take (i := 0) (v := .pointer (some ⟨H + 3, 4, none⟩)) rfl (by kernel_rfl) (by kernel_rfl) (by kernel_rfl) (fun _ _ _ h => h) (Or.inl ⟨by rfl, ?_⟩) (by assumption) ?_
                    · (intro w0 hSw; obtain ⟨s1, s2, s3, s4⟩ := hSw; go_simp)
                    try simp only [Act.put, List.setIfInBounds_toArray, List.set_cons_zero, List.set_cons_succ]
                    refine wpAnyH_take (i := 2) (v := .pointer (some ⟨H + 1, 4, none⟩)) rfl (by kernel_rfl) (by kernel_rfl) (by kernel_rfl) (fun _ _ _ h => h) (Or.inl ⟨by rfl, ?_⟩) (by assumption) ?_
                    · (intro w0 hSw; obtain ⟨s1, s2, s3, s4⟩ := hSw; go_simp)
                    try simp only [Act.put, List.setIfInBounds_toArray, List.set_cons_zero, List.set_cons_succ]
                    refine wpAnyH_take (i := 3) (v := .slice (some ⟨b, off, none⟩) m cy) rfl (by kernel_rfl) (by kernel_rfl) (by kernel_rfl) (fun _ _ _ h => h) (Or.inl ⟨by rfl, ?_⟩) (by assumption) ?_
                    · (intro w0 hSw; obtain ⟨s1, s2, s3, s4⟩ := hSw; go_simp)
                    try simp only [Act.put, List.setIfInBounds_toArray, List.set_cons_zero, List.set_cons_succ]
                    refine wpAnyH_take (i := 4) (v := .int .u64 (C + 1 + j)) rfl (by kernel_rfl) (by kernel_rfl) (by kernel_rfl) (fun _ _ _ h => h) (Or.inl ⟨by rfl, ?_⟩) (by assumption) ?_
                    · (intro w0 hSw; obtain ⟨s1, s2, s3, s4⟩ := hSw; go_simp)
                    try simp only [Act.put, List.setIfInBounds_toArray, List.set_cons_zero, List.set_cons_succ]
                    refine wpAnyH_take (i := 5) (v := .pointer (some ⟨H + 1, 2, none⟩)) rfl (by kernel_rfl) (by kernel_rfl) (by kernel_rfl) (fun _ _ _ h => h) (Or.inl ⟨by rfl, ?_⟩) (by assumption) ?_
                    · (intro w0 hSw; obtain ⟨s1, s2, s3, s4⟩ := hSw; go_simp)
                    try simp only [Act.put, List.setIfInBounds_toArray, List.set_cons_zero, List.set_cons_succ]
                    refine wpAnyH_take (i := 6) (v := .int .u64 (yc)) rfl (by kernel_rfl) (by kernel_rfl) (by kernel_rfl) (fun _ _ _ h => h) (Or.inl ⟨by rfl, ?_⟩) (by assumption) ?_
                    · (intro w0 hSw; obtain ⟨s1, s2, s3, s4⟩ := hSw; go_simp)
                    try simp only [Act.put, List.setIfInBounds_toArray, List.set_cons_zero, List.set_cons_succ]
                    refine wpAnyH_take (i := 7) (v := .int .u64 (C + 1 + j - yc)) rfl (by kernel_rfl) (by kernel_rfl) (by kernel_rfl) (fun _ _ _ h => h) (Or.inl ⟨by rfl, ?_⟩) (by assumption) ?_
                    · (intro w0 hSw; obtain ⟨s1, s2, s3, s4⟩ := hSw; go_simp)
                    try simp only [Act.put, List.setIfInBounds_toArray, List.set_cons_zero, List.set_cons_succ]
                    refine wpAnyH_take (i := 8) (v := .int .u64 ((p1 : Int))) rfl (by kernel_rfl) (by kernel_rfl) (by kernel_rfl) (fun _ _ _ h => h) (Or.inl ⟨by rfl, ?_⟩) (by assumption) ?_
                    · (intro w0 hSw; obtain ⟨s1, s2, s3, s4⟩ := hSw; go_simp)
                    try simp only [Act.put, List.setIfInBounds_toArray, List.set_cons_zero, List.set_cons_succ]
                    refine wpAnyH_take (i := 9) (v := .pointer (some ⟨b, off + p1, none⟩)) rfl (by kernel_rfl) (by kernel_rfl) (by kernel_rfl) (fun _ _ _ h => h) (Or.inl ⟨by rfl, ?_⟩) (by assumption) ?_
                    · (intro w0 hSw; obtain ⟨s1, s2, s3, s4⟩ := hSw; go_simp)
                    try simp only [Act.put, List.setIfInBounds_toArray, List.set_cons_zero, List.set_cons_succ]
                    refine wpAnyH_take (i := 10) (v := .slice ao l c) rfl (by kernel_rfl) (by kernel_rfl) (by kernel_rfl) (fun _ _ _ h => h) (Or.inl ⟨by rfl, ?_⟩) (by assumption) ?_
                    · (intro w0 hSw; obtain ⟨s1, s2, s3, s4⟩ := hSw; go_simp)
                    try simp only [Act.put, List.setIfInBounds_toArray, List.set_cons_zero, List.set_cons_succ]
                    refine wpAnyH_ready (rs := [1, 11]) (by kernel_rfl) (by simp) ?_
                    refine AllReadyH.cons rfl (fun K hK => ?_) ?_
                    · skip
                      go_simp
                      clear hHeld
                      refine hK.out _ _ ⟨a2, a3, a4, a5⟩ (fun hHeld => ?_)
                      clear hK K
                      try simp only [Act.put, List.setIfInBounds_toArray, List.set_cons_zero, List.set_cons_succ]
                      refine wpAnyH_ready (rs := [11]) (by kernel_rfl) (by simp) ?_
                      refine AllReadyH.cons rfl (fun K hK => ?_) ?_
                      · skip
                        go_simp
                        clear hHeld
                        refine hK.out _ _ ⟨(alloc_cell wq _ _ a2), (alloc_cell wq _ _ a3), (alloc_cell wq _ _ a4), a6 _⟩ (fun hHeld => ?_)
                        clear hK K
                        try simp only [Act.put, List.setIfInBounds_toArray, List.set_cons_zero, List.set_cons_succ]
                        refine wpAnyH_ready (rs := [12]) (by kernel_rfl) (by simp) ?_
                        refine AllReadyH.cons rfl (fun K hK => ?_) ?_
                        · skip
                          (refine step_append_lies _ (by rfl) _ _ _ (by rfl) W4.heap.size 49 i9 _ 1 24 Try.underlying38 hi9 y0 y1 y2 rfl (by omega) (.slice (some ⟨g, 0, none⟩) j cap) j vs (by rfl) ((hown'.alloc _).drew) ⟨wq.heap.size, 0, none⟩ 1 1 [.slice ao l c] (by rfl) (by rfl) (World.news_of_block (cs := #[.slice ao l c]) (t := 49) (fr := (0, 0)) (heap_alloc_new wq _)) (by simp [Value.oneCell']) (by omega) (by unfold maxLen; omega) (by omega) (by simp; omega) (wq.heap.size + 1) (by simp) ?_; intro gg cap' w1 hown1 hgrow hat hlt1)
                          have b1 : w1.cell? ⟨H + 3, 4, none⟩ = some (.slice (some ⟨g, 0, none⟩) j cap) := (hgrow.cell_far _ (by simp; omega) (by simp [Value.ownBlock]; omega)).trans (alloc_cell wq _ _ a1)
                          have hHeld' := hHeld; clear hHeld
                          refine hK.out _ _ ⟨(hgrow.cell_far _ (by simp; omega) (by simp [Value.ownBlock]; omega)).trans hHeld'.1, (hgrow.cell_far _ (by simp; omega) (by simp [Value.ownBlock]; omega)).trans hHeld'.2.1, (hgrow.cell_far _ (by simp; omega) (by simp [Value.ownBlock]; omega)).trans hHeld'.2.2.1, (hgrow.frozen_far _ (by simp; omega) (by simp [Value.ownBlock]; omega)).trans hHeld'.2.2.2⟩ (fun hHeld => ?_)
                          clear hK K
                          try simp only [Act.put, List.setIfInBounds_toArray, List.set_cons_zero, List.set_cons_succ]
                          refine wpAnyH_take (i := 13) (v := .pointer (some ⟨H + 3, 4, none⟩)) rfl (by kernel_rfl) (by kernel_rfl) (by kernel_rfl) (fun _ _ _ h => h) (Or.inl ⟨by rfl, ?_⟩) (by assumption) ?_
                          · (intro w0 hSw; clear hSw; go_simp)
                          try simp only [Act.put, List.setIfInBounds_toArray, List.set_cons_zero, List.set_cons_succ]
                          refine wpAnyH_ready (rs := [14]) (by kernel_rfl) (by simp) ?_
                          refine AllReadyH.cons rfl (fun K hK => ?_) ?_
                          · skip
                            obtain ⟨s1, s2, s3, s4⟩ := hHeld
                            go_simp
                            refine hK.out _ _ ⟨?_, ?_, ?_, ?_⟩ (fun hHeld => ?_)
                            · exact (set_far _ _ _ _ (by simp <;> omega)).trans s1
                            · exact (set_far _ _ _ _ (by simp <;> omega)).trans s2
                            · exact (set_far _ _ _ _ (by simp <;> omega)).trans s3
                            · simp [go_sem, s4]
                            clear hK K hHeld
                            try simp only [Act.put, List.setIfInBounds_toArray, List.set_cons_zero, List.set_cons_succ]
                            refine wpAnyH_done (by kernel_rfl) ?_ _
                            refine NoPanic.normal ?_
                            go_wp2
                            go_roundw
                            case rel =>
                              have hgd : (wq.alloc (.cells #[.slice ao l c] 49)).grownBy (wq.alloc (.cells #[.slice ao l c] 49)).drew (some g) := ⟨rfl, rfl, rfl, Nat.le_refl _, fun _ _ _ => rfl⟩
                              have hgrow' : (wq.alloc (.cells #[.slice ao l c] 49)).drew.grownBy w1 (some g) := hgrow
                              have hgw1 : wq.grownBy w1 (some g) := grown_trans (grown_trans (World.grownBy_alloc wq (.cells #[.slice ao l c] 49) (some g)) hgd) hgrow'
                              have hset := grownBy_set w1 ⟨H + 3, 4, none⟩ (.slice (some ⟨gg, 0, none⟩) (j + 1) cap')
                              refine ⟨j + 1, gg, cap', vs ++ [.slice ao l c], ?_, by omega, ?_, ?_, ?_, ?_, ?_⟩
                              · simp [Int.add_assoc]
                              · exact Keep4.grown (Keep4.grown HKP'.out hgw1 (by omega) hmb hH) hset (Nat.le_refl _) hmb hH
                              · exact Rec5.set4 (HR7'.out.grown hgw1 (by omega)) _
                              · exact hown1.kept hset (.inr (by have := (hown1.lt gg rfl).1; simp [Value.ownBlock]; omega))
                              · exact hgot.out.next (by have := hown'.1; omega) ao l c HT.out
                              · exact Nat.le_trans hsz' (Nat.le_trans hgw1.size hset.size)
                            case measure => simp [intOf]; omega
                          exact AllReadyH.nil
                        exact AllReadyH.nil
                      exact AllReadyH.nil
                    refine AllReadyH.cons rfl (fun K hK => ?_) ?_
                    · skip
                      go_simp
                      clear hHeld
                      refine hK.out _ _ ⟨(alloc_cell wq _ _ a2), (alloc_cell wq _ _ a3), (alloc_cell wq _ _ a4), a6 _⟩ (fun hHeld => ?_)
                      clear hK K
                      try simp only [Act.put, List.setIfInBounds_toArray, List.set_cons_zero, List.set_cons_succ]
                      have a1' := alloc_cell wq (.cells #[.slice ao l c] 49) _ a1
                      refine wpAnyH_ready (rs := [1]) (by kernel_rfl) (by simp) ?_
                      refine AllReadyH.cons rfl (fun K hK => ?_) ?_
                      · skip
                        go_simp
                        clear hHeld
                        refine hK.out _ _ ⟨(alloc_cell wq _ _ a2), (alloc_cell wq _ _ a3), (alloc_cell wq _ _ a4), a6 _⟩ (fun hHeld => ?_)
                        clear hK K
                        try simp only [Act.put, List.setIfInBounds_toArray, List.set_cons_zero, List.set_cons_succ]
                        refine wpAnyH_ready (rs := [12]) (by kernel_rfl) (by simp) ?_
                        refine AllReadyH.cons rfl (fun K hK => ?_) ?_
                        · skip
                          (refine step_append_lies _ (by rfl) _ _ _ (by rfl) W4.heap.size 49 i9 _ 1 24 Try.underlying38 hi9 y0 y1 y2 rfl (by omega) (.slice (some ⟨g, 0, none⟩) j cap) j vs (by rfl) ((hown'.alloc _).drew) ⟨wq.heap.size, 0, none⟩ 1 1 [.slice ao l c] (by rfl) (by rfl) (World.news_of_block (cs := #[.slice ao l c]) (t := 49) (fr := (0, 0)) (heap_alloc_new wq _)) (by simp [Value.oneCell']) (by omega) (by unfold maxLen; omega) (by omega) (by simp; omega) (wq.heap.size + 1) (by simp) ?_; intro gg cap' w1 hown1 hgrow hat hlt1)
                          have b1 : w1.cell? ⟨H + 3, 4, none⟩ = some (.slice (some ⟨g, 0, none⟩) j cap) := (hgrow.cell_far _ (by simp; omega) (by simp [Value.ownBlock]; omega)).trans (alloc_cell wq _ _ a1)
                          have hHeld' := hHeld; clear hHeld
                          refine hK.out _ _ ⟨(hgrow.cell_far _ (by simp; omega) (by simp [Value.ownBlock]; omega)).trans hHeld'.1, (hgrow.cell_far _ (by simp; omega) (by simp [Value.ownBlock]; omega)).trans hHeld'.2.1, (hgrow.cell_far _ (by simp; omega) (by simp [Value.ownBlock]; omega)).trans hHeld'.2.2.1, (hgrow.frozen_far _ (by simp; omega) (by simp [Value.ownBlock]; omega)).trans hHeld'.2.2.2⟩ (fun hHeld => ?_)
                          clear hK K
                          try simp only [Act.put, List.setIfInBounds_toArray, List.set_cons_zero, List.set_cons_succ]
                          refine wpAnyH_take (i := 13) (v := .pointer (some ⟨H + 3, 4, none⟩)) rfl (by kernel_rfl) (by kernel_rfl) (by kernel_rfl) (fun _ _ _ h => h) (Or.inl ⟨by rfl, ?_⟩) (by assumption) ?_
                          · (intro w0 hSw; clear hSw; go_simp)
                          try simp only [Act.put, List.setIfInBounds_toArray, List.set_cons_zero, List.set_cons_succ]
                          refine wpAnyH_ready (rs := [14]) (by kernel_rfl) (by simp) ?_
                          refine AllReadyH.cons rfl (fun K hK => ?_) ?_
                          · skip
                            obtain ⟨s1, s2, s3, s4⟩ := hHeld
                            go_simp
                            refine hK.out _ _ ⟨?_, ?_, ?_, ?_⟩ (fun hHeld => ?_)
                            · exact (set_far _ _ _ _ (by simp <;> omega)).trans s1
                            · exact (set_far _ _ _ _ (by simp <;> omega)).trans s2
                            · exact (set_far _ _ _ _ (by simp <;> omega)).trans s3
                            · simp [go_sem, s4]
                            clear hK K hHeld
                            try simp only [Act.put, List.setIfInBounds_toArray, List.set_cons_zero, List.set_cons_succ]
                            refine wpAnyH_done (by kernel_rfl) ?_ _
                            refine NoPanic.normal ?_
                            go_wp2
                            go_roundw
                            case rel =>
                              have hgd : (wq.alloc (.cells #[.slice ao l c] 49)).grownBy (wq.alloc (.cells #[.slice ao l c] 49)).drew (some g) := ⟨rfl, rfl, rfl, Nat.le_refl _, fun _ _ _ => rfl⟩
                              have hgrow' : (wq.alloc (.cells #[.slice ao l c] 49)).drew.grownBy w1 (some g) := hgrow
                              have hgw1 : wq.grownBy w1 (some g) := grown_trans (grown_trans (World.grownBy_alloc wq (.cells #[.slice ao l c] 49) (some g)) hgd) hgrow'
                              have hset := grownBy_set w1 ⟨H + 3, 4, none⟩ (.slice (some ⟨gg, 0, none⟩) (j + 1) cap')
                              refine ⟨j + 1, gg, cap', vs ++ [.slice ao l c], ?_, by omega, ?_, ?_, ?_, ?_, ?_⟩
                              · simp [Int.add_assoc]
                              · exact Keep4.grown (Keep4.grown HKP'.out hgw1 (by omega) hmb hH) hset (Nat.le_refl _) hmb hH
                              · exact Rec5.set4 (HR7'.out.grown hgw1 (by omega)) _
                              · exact hown1.kept hset (.inr (by have := (hown1.lt gg rfl).1; simp [Value.ownBlock]; omega))
                              · exact hgot.out.next (by have := hown'.1; omega) ao l c HT.out
                              · exact Nat.le_trans hsz' (Nat.le_trans hgw1.size hset.size)
                            case measure => simp [intOf]; omega
                          exact AllReadyH.nil
                        exact AllReadyH.nil
                      exact AllReadyH.nil
                    exact AllReadyH.nil
                · have hjL' : j = L := by omega
                  subst hjL'
                  obtain ⟨m0, m1, m2, m3, m4, m5⟩ := hr7.out
                  obtain ⟨n0, n1, n2, n3, n4, n5⟩ := hkp.out.2.2.1
                  have f0 := n5 0
                  have f1 := n5 1
                  have f2 := n5 2
                  have f3 := n5 3
                  have f4 := n5 4
                  have hlast : ¬ (C + 1 + (j : Int) ≤ C + j) := by omega
                  clear m5 n5
                  go_wp2
                  refine bodyPost_ret (v := .agg #[.int .u64 rx, .int .u64 (max xa ya), .int .u64 C, .int .u64 (max xs (max ys (min (xc + n) (yc + m)))), .slice (some ⟨g, 0, none⟩) j cap]) (by simp [results, Try.results15, go_sem, n0, n1, n2, n3, n4]) rfl ?_
                  have eL : lenM xc yc n m = j := by
                    unfold lenM
                    rw [HK.out, HC.out]
                    omega
                  have eC := HC.out
                  have hend := merge_end (f := mrg C xc yc n X Y) hkp.out hown (by omega) hgot.out HM.out hmb hH (grown_trans (grown_trans (grown_trans (grown_trans (grownBy_set wr ⟨H + 2, 0, none⟩ (.int .u64 rx)) (grownBy_set _ ⟨H + 2, 1, none⟩ (.int .u64 (max xa ya)))) (grownBy_set _ ⟨H + 2, 2, none⟩ (.int .u64 C))) (grownBy_set _ ⟨H + 2, 3, none⟩ (.int .u64 (max xs (max ys (min (xc + n) (yc + m))))))) (grownBy_set _ ⟨H + 2, 4, none⟩ (.slice (some ⟨g, 0, none⟩) j cap)))
                  refine ⟨some ⟨g, 0, none⟩, ⟨cap, by rw [eL, eC]⟩, ?_⟩
                  unfold rowsM goneM
                  rw [eL, eC]
                  exact hend
end Go.Proofs.Qxb6618378a
