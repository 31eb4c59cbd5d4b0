/-
  Walks of zzMapsAgreeOn (18) and zzMapsAgreeOnRows (11).
-/
import Derived.Test.Qxb6618378aMaps
import Derived.Deep.DeepCutAuto
import Derived.Deep.CutBlock
namespace Go.Proofs.Qxb6618378a
open Go.RowKit

theorem MapIs.stay {w w' : World} {b N : Nat} {S : List (Int × Int)} (h : MapIs w b N S) (hb : Below w.heap.size w w') : MapIs w' b N S := by
  have hlt := World.ownsMap.lt h
  obtain ⟨es, cl, h, r⟩ := h
  exact ⟨es, cl, (hb.block b hlt).trans h, r⟩

set_option maxHeartbeats 1000000 in
theorem agreeon_any (a b NA NB : Nat) (S1 S2 : List (Int × Int)) (hsame : ∀ t, t ∈ S1 ↔ t ∈ S2) (g1 : ∀ t ∈ S1, GoodTag t) (g2 : ∀ t ∈ S2, GoodTag t) (ao : Option Addr) (n c : Nat) (T : List (Int × Int)) (w : World)
    (hT : TagRow w ao n T) (gT : ∀ t ∈ T, GoodTag t) (hA : MapIs w a NA S1) (hB : MapIs w b NB S2) (hn : n ≤ 1048576) :
    Calls Try.prog 18 #[.map (some a), .map (some b), .slice ao n c] w fun e w' => e = .returned (.bool true) ∧ Below w.heap.size w w' := by
  have HS : Hid (∀ t, t ∈ S1 ↔ t ∈ S2) := hsame
  have G1 : Hid (∀ t ∈ S1, GoodTag t) := g1
  have G2 : Hid (∀ t ∈ S2, GoodTag t) := g2
  have HT : Hid (TagRow w ao n T) := hT
  have GT : Hid (∀ t ∈ T, GoodTag t) := gT
  have HA : Hid (MapIs w a NA S1) := hA
  have HB : Hid (MapIs w b NB S2) := hB
  clear hsame g1 g2 hT gT hA hB
  go_enter Try.func18, Try.ntmps18
  go_wp2
  go_loopw [7] (fun i wr => ∃ k : Nat, k ≤ n ∧ i = .int .i64 k ∧ Below w.heap.size w wr) (fun i _ => n - (intOf i).toNat)
  case atStart => exact ⟨0, Nat.zero_le _, rfl, Below.refl _ _⟩
  case round =>
    obtain ⟨k, hk, rfl, hbel⟩ := hrel
    by_cases hlt : k < n
    · have hTl := HT.out.1
      obtain ⟨_, h | ⟨b1, off, rfl, hc⟩⟩ := HT.out.later hbel
      · omega
      obtain ⟨d1, d2⟩ := hc k hlt
      have hgood : GoodTag (T.getD k (0, 0)) := GT.out _ (by rw [List.getD_eq_getElem?_getD, List.getElem?_eq_getElem (by omega)]; exact List.getElem_mem _)
      clear hc hTl
      generalize T.getD k (0, 0) = tg at d1 d2 hgood
      obtain ⟨t1, t2⟩ := tg
      dsimp only at d1 d2
      have HG : Hid (GoodTag (t1, t2)) := hgood
      clear hgood
      go_upto_region 5 with (go_at_call 17; refine (tag_any _ _ _).mono ?_; rintro e w1 ⟨rfl, hb1⟩)
      have hb2 : Below w.heap.size w w1 := hbel.trans (hb1.mono hbel.size)
      have hA1 : MapIs (w1.alloc (.cells #[.int .u64 t1, .int .u64 t2] 45)) a NA S1 := HA.out.stay (hb2.alloc hb2.size _)
      have hB1 : MapIs (w1.alloc (.cells #[.int .u64 t1, .int .u64 t2] 45)) b NB S2 := HB.out.stay (hb2.alloc hb2.size _)
      have l1 : ∀ q, (Instr.lookup 27 (.map (some a)) (.agg #[.int .u64 t1, .int .u64 t2]) false).run Try.prog ((w1.alloc (.cells #[.int .u64 t1, .int .u64 t2] 45)).drewN q) = .ok (.bool (decide ((t1, t2) ∈ S1))) ((w1.alloc (.cells #[.int .u64 t1, .int .u64 t2] 45)).drewN q) :=
        fun q => MapIs.look (w := (w1.alloc (.cells #[.int .u64 t1, .int .u64 t2] 45)).drewN q) hA1 G1.out t1 t2 HG.out
      have l2 : ∀ q, (Instr.lookup 27 (.map (some b)) (.agg #[.int .u64 t1, .int .u64 t2]) false).run Try.prog ((w1.alloc (.cells #[.int .u64 t1, .int .u64 t2] 45)).drewN q) = .ok (.bool (decide ((t1, t2) ∈ S2))) ((w1.alloc (.cells #[.int .u64 t1, .int .u64 t2] 45)).drewN q) :=
        fun q => MapIs.look (w := (w1.alloc (.cells #[.int .u64 t1, .int .u64 t2] 45)).drewN q) hB1 G2.out t1 t2 HG.out
      have hsm : decide ((t1, t2) ∈ S2) = decide ((t1, t2) ∈ S1) := by simp [HS.out (t1, t2)]
      rw [hsm] at l2
      generalize decide ((t1, t2) ∈ S1) = v at l1 l2
      clear hA1 hB1 hsm
      go_quiet (fail)
      go_wp2
      go_roundw
      case rel => exact ⟨k + 1, by omega, by go_num, below_drewN' (hb2.alloc hb2.size _) _⟩
      case measure => simp [intOf]; omega
    · go_wp2
      go_ret
      exact ⟨rfl, hbel⟩

set_option maxHeartbeats 1000000 in
theorem agreerows_any (a b NA NB : Nat) (S1 S2 : List (Int × Int)) (hsame : ∀ t, t ∈ S1 ↔ t ∈ S2) (g1 : ∀ t ∈ S1, GoodTag t) (g2 : ∀ t ∈ S2, GoodTag t) (vo : Option Addr) (n c : Nat) (X : List (List (Int × Int))) (w : World)
    (hX : Rows2 w vo n X) (gX : ∀ T ∈ X, ∀ t ∈ T, GoodTag t) (lX : ∀ j, j < n → (X.getD j []).length ≤ 65536) (hA : MapIs w a NA S1) (hB : MapIs w b NB S2) (hn : n ≤ 1048576) :
    Calls Try.prog 11 #[.map (some a), .map (some b), .slice vo n c] w fun e w' => e = .returned (.bool true) ∧ Below w.heap.size w w' := by
  have HS : Hid (∀ t, t ∈ S1 ↔ t ∈ S2) := hsame
  have G1 : Hid (∀ t ∈ S1, GoodTag t) := g1
  have G2 : Hid (∀ t ∈ S2, GoodTag t) := g2
  have HX : Hid (Rows2 w vo n X) := hX
  have GX : Hid (∀ T ∈ X, ∀ t ∈ T, GoodTag t) := gX
  have LX : Hid (∀ j, j < n → (X.getD j []).length ≤ 65536) := lX
  have HA : Hid (MapIs w a NA S1) := hA
  have HB : Hid (MapIs w b NB S2) := hB
  clear hsame g1 g2 hX gX lX hA hB
  go_enter Try.func11, Try.ntmps11
  go_wp2
  go_loopw [7] (fun i wr => ∃ k : Nat, k ≤ n ∧ i = .int .i64 k ∧ Below w.heap.size w wr) (fun i _ => n - (intOf i).toNat)
  case atStart => exact ⟨0, Nat.zero_le _, rfl, Below.refl _ _⟩
  case round =>
    obtain ⟨k, hk, rfl, hbel⟩ := hrel
    by_cases hlt : k < n
    · have hXl := HX.out.1
      obtain ⟨_, h | ⟨b1, off, rfl, hc⟩⟩ := HX.out.later hbel
      · omega
      obtain ⟨ao, m, c', d1, hT⟩ := hc k hlt
      have hmem : X.getD k [] ∈ X := by rw [List.getD_eq_getElem?_getD, List.getElem?_eq_getElem (by omega)]; exact List.getElem_mem _
      have HCALL : Hid (Calls Try.prog 18 #[.map (some a), .map (some b), .slice ao m c'] wr fun e w' => e = .returned (.bool true) ∧ Below wr.heap.size wr w') :=
        agreeon_any a b NA NB S1 S2 HS.out G1.out G2.out ao m c' _ wr hT (GX.out _ hmem) (HA.out.stay hbel) (HB.out.stay hbel) (by have h1 := hT.1; have h2 := LX.out k hlt; omega)
      clear hc hXl hT hmem
      go_wp2_with (go_at_call 18; refine HCALL.out.mono ?_; rintro e w1 ⟨rfl, hb1⟩)
      go_roundw
      case rel => exact ⟨k + 1, by omega, by go_num, hbel.trans (hb1.mono hbel.size)⟩
      case measure => simp [intOf]; omega
    · go_wp2
      go_ret
      exact ⟨rfl, hbel⟩
end Go.Proofs.Qxb6618378a
