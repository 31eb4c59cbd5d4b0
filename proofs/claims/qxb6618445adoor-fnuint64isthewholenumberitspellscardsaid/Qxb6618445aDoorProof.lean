/-
  The row proved; the tied card closed.
-/
import Derived.Test.Qxb6618445aDoorLaw
import Derived.Test.Qxb6618445aDoorRows
import Derived.Test.Qxb6618445aDoorTie
import Derived.Test.Qxb6618445aDoorCards
import Derived.ChangeSame
import Derived.ChangeVars
import Derived.ChangeMaps5
import Derived.JoinedOf
import Derived.RowKit
import Derived.RowKit3
import Derived.RowKitTokens
import Derived.LaidLaws
import Derived.Stop.LaidErr
import Derived.Stop.Joined
import Derived.ProofKit
import Derived.Lay
import Derived.SevenTiedAt
namespace Go.Proofs.Qxb6618445aDoor
open Go.ChangeShapes Go.WideShapes Go.ChangeAt Go.RowKit
open Go.ChangeMaps (open_string shut_string)

theorem own : ownKnob Tryd.prog.godebug = none := by kernel_rfl
theorem gES : Tryd.prog.globalNamed "strconv.ErrSyntax" = some 0 := by kernel_rfl
theorem gER : Tryd.prog.globalNamed "strconv.ErrRange" = some 1 := by kernel_rfl
theorem gEST : (Tryd.prog.globals[0]?).map (·.type) = some 35 := by kernel_rfl
theorem gERT : (Tryd.prog.globals[1]?).map (·.type) = some 35 := by kernel_rfl
theorem cells74 : Tryd.prog.cellsOf 74 = 1 := by kernel_rfl
theorem cells9 : Tryd.prog.cellsOf 9 = 1 := by kernel_rfl
/-- The dynamic type's name, as the row lists it. -/
def nameOf : DataW Unit → String
  | .iface n _ => n
  | _ => ""
theorem row72 (u : TypeId) (h : Tryd.prog.typeName? 3 u = some (nameOf Rows.laid_strconv_ErrRange)) : u = 72 :=
  typeName_ptr_named (P := Tryd.prog) (nm := "errors.errorString") (by kernel_rfl) (by kernel_rfl) (by decide) u (h.trans (by decide))

/-- From the listed variables to what the walk asks. -/
theorem sent_of_laid {W : World} (hL : laidMet Tryd.prog Rows.fnUint64IsTheWholeNumberItSpellsRow.laid W) : Sent W := by
  obtain ⟨a1, s1, hv1, -, -, -⟩ := laid_sentinel hL.tail.tail.tail gER gERT Tryd.underlying35 row72 Tryd.underlying72 Tryd.underlying74 rfl rfl Tryd.underlying9 cells74 cells9
  obtain ⟨a0, s0, hv0, -, -, -⟩ := laid_sentinel hL.tail.tail.tail.tail gES gEST Tryd.underlying35 row72 Tryd.underlying72 Tryd.underlying74 rfl rfl Tryd.underlying9 cells74 cells9
  exact ⟨⟨_, _, by have h0 := World.var?_cell gES hv0 0; simpa using h0⟩, ⟨_, _, by have h0 := World.var?_cell gER hv1 0; simpa using h0⟩⟩

set_option maxRecDepth 100000 in
theorem lifted (os : Os) (started : os.Started) (H : Type) (enc : TypeId × Value → H) :
    ReturnsInHanded {} Tryd.checked os 3 .any (fun w args => (Rows.fnUint64IsTheWholeNumberItSpellsSpec.pre enc Tryd.prog Tryd.f3 [] false w args ∧ laidMetH Tryd.prog Rows.fnUint64IsTheWholeNumberItSpellsRow.laid w) ∧ sizedMet enc Tryd.prog Tryd.f3 (OpenSpec.ofChange Rows.fnUint64IsTheWholeNumberItSpellsSpec) false w args)
      (Rows.fnUint64IsTheWholeNumberItSpellsSpec.post enc Tryd.prog Tryd.f3 false true false false) := by
  refine returnsInHanded_of_change_and (C := Tryd.checked) (X := fun w _ => laidMetH Tryd.prog Rows.fnUint64IsTheWholeNumberItSpellsRow.laid w) (fun _ _ _ hh h => h.of_heap hh) own started (by kernel_rfl) Tryd.func3
    (ChangeSpec.witness_shaped (enc := enc) (C := Tryd.checked) (os := os) (X := fun w _ => laidMetH Tryd.prog Rows.fnUint64IsTheWholeNumberItSpellsRow.laid w) false (World.laidAll Tryd.prog os Rows.fnUint64IsTheWholeNumberItSpellsRow.laid) #[.bool false, .string ⟨#[]⟩, .int .i64 0] 8 (World.laidAll_os _ _ _)
      (World.shaped_of_ZipB (by kernel_rfl) (by kernel_rfl)) (by kernel_rfl) (by kernel_rfl) (by kernel_rfl)
      (by rw [MakeChecks.laidMetH_plain _ _ _ (by kernel_rfl)]; exact laidMet_laidAll _ (by kernel_rfl) (by kernel_rfl))) ?_
  intro W base args ds gs before hval0 hW _ _ hL _
  have hval : ∀ (j : Nat) t v, Tryd.f3.params[j]? = some t → args[j]? = some v → Value.okWide Tryd.prog W .any base t v := hval0
  have hW' := hW
  obtain ⟨p, q, hA0, hV, rfl, _, _⟩ := hW
  have hA : DataW.TrodAll enc Tryd.prog W 0 (fun _ => true) true Tryd.f3.params.toList args.toList ds p := hA0
  rw [Tryd.params3] at hA hval
  obtain ⟨v0, v1, v2, d0, d1, d2, p0, p1, p2, rfl, rfl, rfl, h0, h1, h2⟩ := trodAll_three hA
  obtain ⟨rfl, rfl⟩ := trodVars_none hV
  obtain ⟨neg, rfl, rfl, rfl⟩ := open_bool Tryd.underlying4 (hval 0 4 v0 rfl rfl) h0
  obtain ⟨s, rfl, rfl, rfl, hs⟩ := open_string Tryd.underlying9 (hval 1 9 v1 rfl rfl) h1
  obtain ⟨x, rfl, rfl, rfl, wx⟩ := open_int Tryd.underlying2 (hval 2 2 v2 rfl rfl) h2
  simp only [List.append_nil] at hW'
  rw [MakeChecks.laidMetH_plain _ _ _ (by kernel_rfl)] at hL
  refine (law_any neg s x W (sent_of_laid hL)).mono fun e W' ⟨he, hb⟩ => ?_
  subst he
  refine ⟨_, rfl, _, _, _, [], [], [], hW', trodAll_mk1 (shut_bool Tryd.underlying4 _), ?_, rfl, hb.frame _, fun h => by cases h⟩
  exact trodAll_mk3 (shut_bool Tryd.underlying4 _) (shut_string Tryd.underlying9 hs) (shut_int Tryd.underlying2 wx)

theorem row_holds : Rows.FnUint64IsTheWholeNumberItSpellsSaid :=
  OpenClaim.holds_of_wide 3 Tryd.f3 rfl rfl rfl rfl rfl rfl rfl ⟨rfl, rfl, rfl, rfl, rfl⟩ rfl rfl rfl rfl rfl (by kernel_rfl) Tryd.func3 (by kernel_rfl)
    (of_decide_eq_true (by kernel_rfl)) (by unfold Func.isWrapper; first | (rw [if_pos (by decide +kernel)]; kernel_rfl) | (rw [if_neg (by decide +kernel)]; exact ⟨rfl, rfl⟩))
    (fun os started H enc _ => lifted os started H enc)

theorem fnUint64.proved : Rows.FnUint64IsTheWholeNumberItSpellsCardSaid :=
  Claim7.holds_tied_plain_at .later [] [.data, .data, .data, .sentinel, .sentinel] true (true, "b58d3da4bb5589631090929797cca99d6267b4f4be317dca239b9a7c29354289") true
    row_holds (fun _ h => by cases h) (by kernel_rfl) (fun _ h => by cases h) fnUint64IsTheWholeNumberItSpells_row_tie rfl ⟨rfl, rfl⟩ (by kernel_rfl) rfl
    (fun f fn hf hfn => by
      obtain rfl : f = 3 := Option.some.inj ((show Tryd.prog.funcNamed Rows.fnUint64IsTheWholeNumberItSpellsRow.func = some 3 by kernel_rfl).symm.trans hf) |>.symm
      obtain rfl : fn = Tryd.f3 := (Option.some.inj (Tryd.func3.symm.trans hfn)).symm
      exact ⟨by kernel_rfl, fun j t ht => by
        rw [Tryd.params3] at ht
        have hm : t ∈ [4, 9, 2] := by simpa using Array.mem_of_getElem? ht
        have hall : ([4, 9, 2].all fun u => !Tryd.prog.wantsStandIn u) = true := by kernel_rfl
        exact (show Tryd.prog.wantsStandIn t = false by simpa using List.all_eq_true.1 hall t hm)⟩)
    (by kernel_rfl)
end Go.Proofs.Qxb6618445aDoor
