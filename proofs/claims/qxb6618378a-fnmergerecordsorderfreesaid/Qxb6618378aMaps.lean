/-
  The map[orset.Tag]bool as a set of tags.
-/
import Derived.Test.Qxb6618378aAgree
import Derived.Maps.OwnSet
import Derived.DeepKeys4
namespace Go.Proofs.Qxb6618378a
open Go.RowKit
open Go.Maps (Keyed setOf has size addKey)

theorem Try.laid : laidOutB Try.prog = true := by kernel_rfl
theorem Try.row45 : (45 : TypeId) < Try.prog.types.size := of_decide_eq_true (by kernel_rfl)
theorem Try.some_types : ∃ d, Try.prog.types.size = d + 1 := ⟨Try.prog.types.size - 1, by have h : 45 < Try.prog.types.size := Try.row45; omega⟩
theorem Try.cells45 : Try.prog.cellsOf 45 = 2 := by kernel_rfl
theorem Try.cells22 : Try.prog.cellsOf 22 = 1 := by kernel_rfl
theorem Try.deep45 : Try.prog.keyType 45 = true := by kernel_rfl
theorem Try.wide45 : (match Try.prog.underlying 45 with | some (.array _ _) | some (.struct _) => true | _ => false) = true := by kernel_rfl
theorem Try.keyed45 : Keyed Try.prog 45 := Keyed.of_law (deep_law_laid Try.laid (m := 2) (by omega) Try.row45 (by kernel_rfl) Try.wide45)
theorem Try.formed45 {c0 c1 : Value} : (Value.agg #[c0, c1]).formed Try.prog 45 = true := by simp [Value.formed, Try.underlying45, Try.cells45]
theorem Try.zero4 (w : World) : (zeroValue 4).run Try.prog w = .ok (.bool false) w := by kernel_rfl

def U64 (x : Int) : Prop := 0 ≤ x ∧ x < 18446744073709551616
def GoodTag (t : Int × Int) : Prop := U64 t.1 ∧ U64 t.2

/-- How a tag reads as a key. -/
def KEY (t : Int × Int) : Lit := .string (keyBytes [.int .u64 t.1, .int .u64 t.2])

theorem wf_u64 {x : Int} (h : U64 x) : (Lit.int .u64 x).wf = true := by
  obtain ⟨a, b⟩ := h
  have e1 : IntKind.u64.min = 0 := by decide
  have e2 : IntKind.u64.max = 18446744073709551615 := by decide
  simp only [Lit.wf, e1, e2, Bool.and_eq_true, decide_eq_true_eq]
  omega

theorem keyOf_pair {P : Program} {k e : TypeId} {f g : Field} (hu : P.underlying k = some (.struct #[f, g])) (hn1 : (f.name != "_") = true) (hn2 : (g.name != "_") = true) (e1 : f.type = e) (e2 : g.type = e) (o1 : f.offset = 0) (o2 : g.offset = 1)
    (he : P.underlying e = some (.int .u64)) (hk : P.keyType k = true) (hf : ∀ c0 c1, (Value.agg #[c0, c1]).formed P k = true) (hc : P.cellsOf k = 2) (hce : P.cellsOf e = 1) (hd : ∃ d, P.types.size = d + 1) {a b : Int} (ha : (Lit.int .u64 a).wf = true) (hb : (Lit.int .u64 b).wf = true) :
    keyOf P k (.agg #[.int .u64 a, .int .u64 b]) = some (.string (keyBytes [.int .u64 a, .int .u64 b])) := by
  obtain ⟨d, hd⟩ := hd
  unfold keyOf
  rw [hu, hd]
  simp only [hk, hf, Bool.and_self, if_true]
  simp [Program.keyLits, hu, hc, hn1, hn2, e1, e2, o1, o2, he, hce, Value.cells, ha, hb]

theorem keyOf_tag {t : Int × Int} (h : GoodTag t) : keyOf Try.prog 45 (.agg #[.int .u64 t.1, .int .u64 t.2]) = some (KEY t) :=
  keyOf_pair Try.underlying45 rfl rfl rfl rfl rfl rfl Try.underlying22 Try.deep45 (fun _ _ => Try.formed45) Try.cells45 Try.cells22 Try.some_types (wf_u64 h.1) (wf_u64 h.2)

theorem KEY_inj {s t : Int × Int} (hs : GoodTag s) (ht : GoodTag t) (h : KEY s = KEY t) : s = t := by
  have := Try.keyed45.inj (keyOf_tag hs) (h ▸ keyOf_tag ht)
  simp at this
  exact Prod.ext this.1 this.2
theorem KEY_key (t : Int × Int) : WideAt.IsKeyLit (KEY t) := trivial
theorem keys_key (S : List (Int × Int)) : ∀ x ∈ S.map KEY, WideAt.IsKeyLit x := by
  intro x hx
  obtain ⟨t, _, rfl⟩ := List.mem_map.1 hx
  exact KEY_key t
theorem key_mem {S : List (Int × Int)} (hS : ∀ t ∈ S, GoodTag t) {t : Int × Int} (ht : GoodTag t) : KEY t ∈ S.map KEY ↔ t ∈ S := by
  constructor
  · intro h
    obtain ⟨s, hs, e⟩ := List.mem_map.1 h
    rw [← KEY_inj (hS s hs) ht e]; exact hs
  · exact fun h => List.mem_map.2 ⟨t, h, rfl⟩

abbrev D1 : Type := DataW Unit
def tru : D1 := .lit (.bool true)
def SET (S : List (Int × Int)) : D1 := setOf tru (S.map KEY)

/-- Block b holds the map whose keys are the tags of S, each true. -/
def MapIs (w : World) (b N : Nat) (S : List (Int × Int)) : Prop := w.ownsMap Try.prog 45 (plainElem Try.prog 4) b N (SET S)

theorem SET_snoc (S : List (Int × Int)) (t : Int × Int) : SET (S ++ [t]) = (SET S).put (KEY t) tru := by simp [SET, Maps.setOf_snoc]

theorem atKey_setOf (z : D1) (k : Lit) : ∀ (acc : List Lit) (m : D1), Maps.IsMap m → (∀ x ∈ acc, WideAt.IsKeyLit x) → (k ∈ acc → (acc.foldl (fun m x => m.put x tru) m).atKey k z = tru) ∧ (k ∉ acc → (acc.foldl (fun m x => m.put x tru) m).atKey k z = m.atKey k z)
  | [], m, _, _ => by simp
  | x :: r, m, hm, h => by
    obtain ⟨h1, h2⟩ := atKey_setOf z k r (m.put x tru) (hm.put x tru) (fun y hy => h y (by simp [hy]))
    rw [List.foldl_cons]
    by_cases e : k = x
    · subst e
      refine ⟨fun _ => ?_, fun hn => absurd (List.mem_cons_self) hn⟩
      by_cases hr : k ∈ r
      · exact h1 hr
      · rw [h2 hr, Maps.atKey_put_same hm (h k (by simp))]
    · refine ⟨fun hk => h1 ?_, fun hk => ?_⟩
      · rcases List.mem_cons.1 hk with h' | h'
        · exact absurd h' e
        · exact h'
      · rw [h2 (fun h' => hk (List.mem_cons_of_mem _ h')), Maps.atKey_put_other e]

theorem atKey_SET (S : List (Int × Int)) (k : Lit) (z : D1) : (k ∈ S.map KEY → (SET S).atKey k z = tru) ∧ (k ∉ S.map KEY → (SET S).atKey k z = z) := by
  obtain ⟨h1, h2⟩ := atKey_setOf z k _ _ Maps.isMap_empty (keys_key S)
  exact ⟨h1, fun h => h2 h⟩

theorem plainElem_bool_inv {P : Program} {e : TypeId} (he : P.underlying e = some .bool) {v : Value} {z : D1 × List MemPlace} (h : plainElem P e v = some z) : ∃ x, v = .bool x ∧ z = (.lit (.bool x), []) := by
  unfold plainElem at h
  rw [he] at h
  cases v <;> simp at h
  exact ⟨_, rfl, h.symm⟩

theorem MapIs.look {w : World} {b N : Nat} {S : List (Int × Int)} (h : MapIs w b N S) (hS : ∀ t ∈ S, GoodTag t) (a c : Int) (ht : GoodTag (a, c)) :
    (Instr.lookup 27 (.map (some b)) (.agg #[.int .u64 a, .int .u64 c]) false).run Try.prog w = .ok (.bool (decide ((a, c) ∈ S))) w := by
  obtain ⟨v, ps, hrun, hv⟩ := World.ownsMap.lookup h Try.keyed45 Try.underlying27 (Try.zero4 w) (plainElem_bool Try.underlying4 false) (keyOf_tag ht)
  obtain ⟨x, rfl, hx⟩ := plainElem_bool_inv Try.underlying4 hv
  rw [hrun]
  have e : x = decide ((a, c) ∈ S) := by
    by_cases hm : (a, c) ∈ S
    · rw [(atKey_SET S _ _).1 ((key_mem hS ht).2 hm)] at hx
      simp [tru] at hx
      simp [hm, ← hx.1]
    · rw [(atKey_SET S _ _).2 (fun h' => hm ((key_mem hS ht).1 h'))] at hx
      simp at hx
      simp [hm, hx.1]
  rw [e]

theorem addKey_mem (acc : List Lit) (x y : Lit) : y ∈ addKey acc x ↔ y ∈ acc ∨ y = x := by
  unfold addKey
  split
  · rename_i h
    obtain ⟨z, hz, hzx⟩ := List.any_eq_true.1 h
    have := WideAt.sameKey_eq hzx
    subst this
    constructor
    · exact .inl
    · rintro (h | rfl)
      · exact h
      · exact hz
  · simp
theorem addKey_nodup (acc : List Lit) (x : Lit) (hx : WideAt.IsKeyLit x) (h : acc.Nodup) : (addKey acc x).Nodup := by
  unfold addKey
  split
  · exact h
  · rename_i hn
    rw [List.nodup_append]
    refine ⟨h, by simp, ?_⟩
    intro a ha b hb e
    simp at hb
    subst hb; subst e
    exact hn (List.any_eq_true.2 ⟨a, ha, WideAt.sameKey_self hx⟩)
theorem fold_facts : ∀ (xs acc : List Lit), (∀ x ∈ xs, WideAt.IsKeyLit x) → (∀ x ∈ acc, WideAt.IsKeyLit x) → acc.Nodup → (xs.foldl addKey acc).Nodup ∧ ∀ y, y ∈ xs.foldl addKey acc ↔ y ∈ acc ∨ y ∈ xs
  | [], acc, _, _, hn => by simp [hn]
  | x :: r, acc, hx, ha, hn => by
    have h1 := hx x (by simp)
    obtain ⟨n1, m1⟩ := fold_facts r (addKey acc x) (fun y hy => hx y (by simp [hy])) (fun y hy => by
      rcases (addKey_mem acc x y).1 hy with h | rfl
      · exact ha y h
      · exact h1) (addKey_nodup acc x h1 hn)
    refine ⟨n1, fun y => ?_⟩
    rw [List.foldl_cons, m1 y, addKey_mem acc x y, List.mem_cons]
    constructor
    · rintro ((h | h) | h)
      · exact .inl h
      · exact .inr (.inl h)
      · exact .inr (.inr h)
    · rintro (h | h | h)
      · exact .inl (.inl h)
      · exact .inl (.inr h)
      · exact .inr h

/-- As many entries, where the tags are the same. -/
theorem size_SET {S T : List (Int × Int)} (h : ∀ t, t ∈ S ↔ t ∈ T) : size (SET S) = size (SET T) := by
  unfold SET
  rw [Maps.size_setOf _ _ (keys_key S), Maps.size_setOf _ _ (keys_key T)]
  obtain ⟨n1, m1⟩ := fold_facts (S.map KEY) [] (keys_key S) (by simp) (by simp)
  obtain ⟨n2, m2⟩ := fold_facts (T.map KEY) [] (keys_key T) (by simp) (by simp)
  refine ((List.perm_ext_iff_of_nodup n1 n2).2 fun y => ?_).length_eq
  rw [m1, m2]
  simp [h]
end Go.Proofs.Qxb6618378a
