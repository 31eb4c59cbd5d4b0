/-
  The row of FnMergeRecordsOrderFreeSaid: the statement, out of the walk.
-/
import Derived.Test.Qxb6618378aRows
import Derived.Test.Qxb6618378aLaw
import Derived.ProofKit
import Derived.OpenShut
import Derived.ShutString
import Derived.ChangeOld
import Derived.Deep.SlicePairs
import Derived.Below
namespace Go.Proofs.Qxb6618378a.fnMergeRecords
open Go.ChangeShapes Go.WideShapes Go.ChangeAt Go.RowKit Go.Deep
set_option linter.unusedVariables false

theorem own : ownKnob Try.prog.godebug = none := by kernel_rfl
theorem laidOut : laidOutB Try.prog = true := by kernel_rfl

theorem u64_of {k : Int} (h : (Lit.int .u64 k).wf = true) : U64 k := by
  have e1 : IntKind.u64.min = 0 := by decide
  have e2 : IntKind.u64.max = 18446744073709551615 := by decide
  simp only [Lit.wf, e1, e2, Bool.and_eq_true, decide_eq_true_eq] at h
  exact ⟨h.1, by omega⟩

/-- A row of tags that came in. -/
theorem viewT {H : Type} {enc : TypeId × Value → H} {W : World} {fuel : Nat} {v : Value} {x : DataW H × List MemPlace} (hf : DataW.trod enc Try.prog W 0 (fun _ => true) true fuel 36 [v] = some x) :
    ∃ T : List (Int × Int), ∃ ao n c, v = .slice ao n c ∧ TagRow W ao n T ∧ ∀ t ∈ T, GoodTag t := by
  rcases open_slice_pairs Try.underlying36 Try.underlying47 (by kernel_rfl) rfl rfl (by kernel_rfl) (by kernel_rfl) hf with ⟨hcs, _⟩ | ⟨a, len, cap, m, n, V0, V1, D0, D1, P0, P1, hcs, _, hl, hm, hmm, _, hel⟩
  · injection hcs with hcs _
    exact ⟨[], none, 0, 0, hcs, ⟨rfl, .inl rfl⟩, by simp⟩
  · injection hcs with hcs _
    simp only [if_true] at hmm
    subst hmm
    have hint : ∀ i, i < len → (W.cell? (a.add (i * 2)) = some (.int .u64 (intOf (V0 i))) ∧ W.cell? (a.add (i * 2 + 1)) = some (.int .u64 (intOf (V1 i)))) ∧ GoodTag (intOf (V0 i), intOf (V1 i)) := by
      intro i hi
      obtain ⟨c0, c1, t0, t1⟩ := hel i (by omega)
      obtain ⟨k0, e0, _, w0⟩ := DataW.trod_int Try.underlying22 t0
      obtain ⟨k1, e1, _, w1⟩ := DataW.trod_int Try.underlying22 t1
      injection e0 with e0 _
      injection e1 with e1 _
      rw [e0] at c0 ⊢
      rw [e1] at c1 ⊢
      exact ⟨⟨c0, c1⟩, u64_of w0, u64_of w1⟩
    refine ⟨(List.range len).map fun i => (intOf (V0 i), intOf (V1 i)), some a, len, _, hcs, ⟨by simp, ?_⟩, ?_⟩
    · by_cases h0 : len = 0
      · exact .inl h0
      · obtain ⟨b, off, spot⟩ := a
        have hspot : spot = none := by simpa [Addr.add] using World.cell?_spot (hint 0 (by omega)).1.1
        subst hspot
        refine .inr ⟨b, off, rfl, fun j hj => ?_⟩
        obtain ⟨⟨c0, c1⟩, _⟩ := hint j hj
        rw [Addr.add_lit] at c0 c1
        have e : ((List.range len).map fun i => (intOf (V0 i), intOf (V1 i))).getD j (0, 0) = (intOf (V0 j), intOf (V1 j)) := by simp [List.getD_eq_getElem?_getD, hj]
        rw [e]
        exact ⟨c0, by rw [Nat.add_assoc]; exact c1⟩
    · intro t ht
      obtain ⟨i, hi, rfl⟩ := List.mem_map.1 ht
      exact (hint i (List.mem_range.1 hi)).2

/-- A row of rows of tags that came in. -/
theorem view {H : Type} {enc : TypeId × Value → H} {W : World} {fuel : Nat} {a0 : Option Addr} {len cap : Nat} {x : DataW H × List MemPlace} (hf : DataW.trod enc Try.prog W 0 (fun _ => true) true fuel 23 (Value.slice a0 len cap).cells.toList = some x) :
    ∃ X : List (List (Int × Int)), Rows2 W a0 len X ∧ ∀ T ∈ X, ∀ t ∈ T, GoodTag t := by
  rcases open_slice1 Try.underlying23 (by kernel_rfl) hf with ⟨hcs, _⟩ | ⟨a, l, c, m, n, V, D, Pl, hcs, _, hl, hm, hmm, _, hel⟩
  · simp [Value.cells] at hcs
    obtain ⟨rfl, rfl, rfl⟩ := hcs
    exact ⟨[], ⟨rfl, .inl rfl⟩, by simp⟩
  · simp [Value.cells] at hcs
    obtain ⟨rfl, rfl, rfl⟩ := hcs
    simp only [if_true] at hmm
    subst hmm
    obtain ⟨F, hF⟩ := choose_lt (n := len) (p := fun i (T : List (Int × Int)) => ∃ ao n c, V i = .slice ao n c ∧ TagRow W ao n T ∧ ∀ t ∈ T, GoodTag t) (fun i hi => viewT (hel i (by omega)).2)
    refine ⟨(List.range len).map F, ⟨by simp, ?_⟩, ?_⟩
    · by_cases h0 : len = 0
      · exact .inl h0
      · obtain ⟨b, off, spot⟩ := a
        have hspot : spot = none := by simpa [Addr.add] using World.cell?_spot (hel 0 (by omega)).1
        subst hspot
        refine .inr ⟨b, off, rfl, fun j hj => ?_⟩
        obtain ⟨ao, n', c', hv, hT, _⟩ := hF j hj
        have c0 := (hel j (by omega)).1
        rw [Addr.add_lit, hv] at c0
        have e : ((List.range len).map F).getD j [] = F j := by simp [List.getD_eq_getElem?_getD, hj]
        rw [e]
        exact ⟨ao, n', c', c0, hT⟩
    · intro T hT
      obtain ⟨i, hi, rfl⟩ := List.mem_map.1 hT
      obtain ⟨_, _, _, _, _, hg⟩ := hF i (List.mem_range.1 hi)
      exact hg

set_option maxRecDepth 100000 in
theorem lifted (os : Os) (started : os.Started) (H : Type) (enc : TypeId × Value → H) :
    ReturnsInHanded {} Try.checked os 3 .any (Rows.fnMergeRecordsOrderFreeSpec.pre6 enc Try.prog Try.f3 Rows.fnMergeRecordsOrderFreeRow.domain false) (Rows.fnMergeRecordsOrderFreeSpec.post enc Try.prog Try.f3 false true false false) := by
  refine returnsInHanded_of_change (C := Try.checked) own started (by kernel_rfl) Try.func3
    (ChangeSpec.witness6 (enc := enc) (C := Try.checked) false ⟨#[], #[.int .u64 0, .int .u64 0, .int .u64 0, .int .u64 0, .slice none 0 0, .int .u64 0, .int .u64 0, .int .u64 0, .slice none 0 0], []⟩ 8 (by kernel_rfl) (by kernel_rfl) (by kernel_rfl) (by kernel_rfl)) ?_
  intro W base args ds gs before hval0 hW hcnd _
  have hval : ∀ (j : Nat) t v, Try.f3.params[j]? = some t → args[j]? = some v → Value.okWide Try.prog W .any base t v := hval0
  have hW' := hW
  obtain ⟨p, q, hA0, hV, rfl, hfz, hnd⟩ := hW
  have hA : DataW.TrodAll enc Try.prog W 0 (fun _ => true) true Try.f3.params.toList args.toList ds p := hA0
  rw [Try.params3] at hA hval
  obtain ⟨v0, vs0, d0, ds0, p0, q0, hargs, rfl, rfl, h0, r0⟩ := trodAll_cons hA
  obtain ⟨v1, vs1, d1, ds1, p1, q1, rfl, rfl, rfl, h1, r1⟩ := trodAll_cons r0
  obtain ⟨v2, vs2, d2, ds2, p2, q2, rfl, rfl, rfl, h2, r2⟩ := trodAll_cons r1
  obtain ⟨v3, vs3, d3, ds3, p3, q3, rfl, rfl, rfl, h3, r3⟩ := trodAll_cons r2
  obtain ⟨v4, vs4, d4, ds4, p4, q4, rfl, rfl, rfl, h4, r4⟩ := trodAll_cons r3
  obtain ⟨v5, vs5, d5, ds5, p5, q5, rfl, rfl, rfl, h5, r5⟩ := trodAll_cons r4
  obtain ⟨v6, vs6, d6, ds6, p6, q6, rfl, rfl, rfl, h6, r6⟩ := trodAll_cons r5
  obtain ⟨v7, vs7, d7, ds7, p7, q7, rfl, rfl, rfl, h7, r7⟩ := trodAll_cons r6
  obtain ⟨v8, vs8, d8, ds8, p8, q8, rfl, rfl, rfl, h8, r8⟩ := trodAll_cons r7
  obtain ⟨rfl, rfl, rfl⟩ := trodAll_nil r8
  obtain rfl : args = #[v0, v1, v2, v3, v4, v5, v6, v7, v8] := by cases args; simp_all
  obtain ⟨rfl, rfl⟩ := trodVars_none hV
  have k0 := h0
  have lt0 : ∀ x ∈ p0, x.block < W.heap.size := by obtain ⟨m, hm⟩ := k0; exact DataW.trod_lt m _ _ _ hm
  obtain ⟨n0, rfl, -, -, w0⟩ := open_int Try.underlying22 (hval 0 22 v0 rfl rfl) h0
  have k1 := h1
  have lt1 : ∀ x ∈ p1, x.block < W.heap.size := by obtain ⟨m, hm⟩ := k1; exact DataW.trod_lt m _ _ _ hm
  obtain ⟨n1, rfl, -, -, w1⟩ := open_int Try.underlying22 (hval 1 22 v1 rfl rfl) h1
  have k2 := h2
  have lt2 : ∀ x ∈ p2, x.block < W.heap.size := by obtain ⟨m, hm⟩ := k2; exact DataW.trod_lt m _ _ _ hm
  obtain ⟨n2, rfl, -, -, w2⟩ := open_int Try.underlying22 (hval 2 22 v2 rfl rfl) h2
  have k3 := h3
  have lt3 : ∀ x ∈ p3, x.block < W.heap.size := by obtain ⟨m, hm⟩ := k3; exact DataW.trod_lt m _ _ _ hm
  obtain ⟨n3, rfl, -, -, w3⟩ := open_int Try.underlying22 (hval 3 22 v3 rfl rfl) h3
  obtain ⟨a4, len4, cap4, rfl⟩ := okWide_slice Try.underlying23 (hval 4 23 v4 rfl rfl)
  have k4 := h4
  have lt4 : ∀ x ∈ p4, x.block < W.heap.size := by obtain ⟨m, hm⟩ := k4; exact DataW.trod_lt m _ _ _ hm
  obtain ⟨X4, w4, g4⟩ : ∃ X : List (List (Int × Int)), Rows2 W a4 len4 X ∧ ∀ T ∈ X, ∀ t ∈ T, GoodTag t := by
    obtain ⟨fuel, hf⟩ := h4
    exact view hf
  have k5 := h5
  have lt5 : ∀ x ∈ p5, x.block < W.heap.size := by obtain ⟨m, hm⟩ := k5; exact DataW.trod_lt m _ _ _ hm
  obtain ⟨n5, rfl, -, -, w5⟩ := open_int Try.underlying22 (hval 5 22 v5 rfl rfl) h5
  have k6 := h6
  have lt6 : ∀ x ∈ p6, x.block < W.heap.size := by obtain ⟨m, hm⟩ := k6; exact DataW.trod_lt m _ _ _ hm
  obtain ⟨n6, rfl, -, -, w6⟩ := open_int Try.underlying22 (hval 6 22 v6 rfl rfl) h6
  have k7 := h7
  have lt7 : ∀ x ∈ p7, x.block < W.heap.size := by obtain ⟨m, hm⟩ := k7; exact DataW.trod_lt m _ _ _ hm
  obtain ⟨n7, rfl, -, -, w7⟩ := open_int Try.underlying22 (hval 7 22 v7 rfl rfl) h7
  obtain ⟨a8, len8, cap8, rfl⟩ := okWide_slice Try.underlying23 (hval 8 23 v8 rfl rfl)
  have k8 := h8
  have lt8 : ∀ x ∈ p8, x.block < W.heap.size := by obtain ⟨m, hm⟩ := k8; exact DataW.trod_lt m _ _ _ hm
  obtain ⟨X8, w8, g8⟩ : ∃ X : List (List (Int × Int)), Rows2 W a8 len8 X ∧ ∀ T ∈ X, ∀ t ∈ T, GoodTag t := by
    obtain ⟨fuel, hf⟩ := h8
    exact view hf
  clear hA0 hval0
  refine (law_any n0 n1 n2 n3 n5 n6 n7 a4 a8 len4 len8 cap4 cap8 X4 X8 W w4 w8 (u64_of w2).1 (u64_of w6).1 g4 g8).mono fun e W' ⟨he, bel⟩ => ?_
  subst he
  exact ⟨_, rfl, _, _, _, [], _, [], hW', trodAll_mk1 (shut_bool Try.underlying4 _), (trodAll_cons_mk (Below.trod laidOut (by kernel_rfl) (of_decide_eq_true (by kernel_rfl)) k0 bel lt0) (trodAll_cons_mk (Below.trod laidOut (by kernel_rfl) (of_decide_eq_true (by kernel_rfl)) k1 bel lt1) (trodAll_cons_mk (Below.trod laidOut (by kernel_rfl) (of_decide_eq_true (by kernel_rfl)) k2 bel lt2) (trodAll_cons_mk (Below.trod laidOut (by kernel_rfl) (of_decide_eq_true (by kernel_rfl)) k3 bel lt3) (trodAll_cons_mk (Below.trod laidOut (by kernel_rfl) (of_decide_eq_true (by kernel_rfl)) k4 bel lt4) (trodAll_cons_mk (Below.trod laidOut (by kernel_rfl) (of_decide_eq_true (by kernel_rfl)) k5 bel lt5) (trodAll_cons_mk (Below.trod laidOut (by kernel_rfl) (of_decide_eq_true (by kernel_rfl)) k6 bel lt6) (trodAll_cons_mk (Below.trod laidOut (by kernel_rfl) (of_decide_eq_true (by kernel_rfl)) k7 bel lt7) (trodAll_cons_mk (Below.trod laidOut (by kernel_rfl) (of_decide_eq_true (by kernel_rfl)) k8 bel lt8) trodAll_mk0))))))))), rfl, bel.frame _, fun h => by cases h⟩

theorem over : Rows.fnMergeRecordsOrderFreeRow.holds Try.pinned (OpenSpec.ofChange Rows.fnMergeRecordsOrderFreeSpec) :=
  OpenClaim.holds_of_wide 3 Try.f3 rfl rfl rfl rfl rfl rfl rfl ⟨rfl, rfl, rfl, rfl, rfl⟩ rfl rfl rfl rfl rfl (by kernel_rfl) Try.func3 (by kernel_rfl)
    (of_decide_eq_true (by kernel_rfl)) (by unfold Func.isWrapper; first | (rw [if_pos (by decide +kernel)]; kernel_rfl) | (rw [if_neg (by decide +kernel)]; exact ⟨rfl, rfl⟩))
    (fun os started H enc _ => lifted os started H enc)

theorem proved : Rows.FnMergeRecordsOrderFreeSaid := over
end Go.Proofs.Qxb6618378a.fnMergeRecords
