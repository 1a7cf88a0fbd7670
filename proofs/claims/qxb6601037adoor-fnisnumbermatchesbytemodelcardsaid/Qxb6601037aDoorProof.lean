/-
  FnIsNumberMatchesByteModel: what the listed variables give, THE ROW, AND THE TIED CARD.
-/
import Derived.Test.Qxb6601037aDoorTie
import Derived.Test.Qxb6601037aDoorCards
import Derived.Test.Qxb6601037aDoorN4
import Derived.ProofKit
import Derived.OpenShut
import Derived.LaidMore
import Derived.Lay
import Derived.Lib.LaidCase
import Derived.PinnedBridge
import Derived.ChangeMaps5
import Derived.SevenTiedAt
import Derived.Stop.Joined
import Derived.Stop.LaidErr
namespace Go.Proofs.Qxb6601037aDoor
open Go.ChangeShapes Go.WideShapes Go.ChangeAt Go.RowKit Go.Lib
theorem own : ownKnob Tryd.prog.godebug = none := by kernel_rfl
def laidL : List (String × DataW Unit) := Rows.fnIsNumberMatchesByteModelRow.laid
theorem accept_eq : (Rows.laid_unicode_utf8_acceptRanges : DataW Unit) = acceptData := by kernel_rfl
theorem u8Extra : U8Extra Tryd.prog Tryd.lays159_ren := ⟨by kernel_rfl, by kernel_rfl, by kernel_rfl, by kernel_rfl, by kernel_rfl, by kernel_rfl, by kernel_rfl⟩
theorem caseExtra : CaseExtra Tryd.prog Tryd.lays159_ren := ⟨by kernel_rfl, by kernel_rfl, by kernel_rfl, by kernel_rfl, by kernel_rfl, by kernel_rfl⟩
theorem tabs_of_laid {W : World} (h : laidMetH Tryd.prog laidL W) : Utf8Tabs 2 3 W ∧ CaseVar 0 caseA W := by
  rw [MakeChecks.laidMetH_plain _ _ _ (by kernel_rfl)] at h
  have h0 : laidMet Tryd.prog (("unicode/utf8.acceptRanges", Rows.laid_unicode_utf8_acceptRanges) :: ("unicode.CaseRanges", Rows.laid_unicode_CaseRanges) :: ("unicode/utf8.first", Rows.laid_unicode_utf8_first) :: []) W := h
  have hA := laidMet.reads h0 (n := "unicode/utf8.acceptRanges") (d := Rows.laid_unicode_utf8_acceptRanges) (List.mem_cons_self)
  have hC := laidMet.reads h0 (n := "unicode.CaseRanges") (d := Rows.laid_unicode_CaseRanges) (List.mem_cons_of_mem _ (List.mem_cons_self))
  have hF := laidMet.reads h0 (n := "unicode/utf8.first") (d := Rows.laid_unicode_utf8_first) (List.mem_cons_of_mem _ (List.mem_cons_of_mem _ (List.mem_cons_self)))
  rw [accept_eq] at hA
  unfold Rows.laid_unicode_CaseRanges at hC
  rw [Pinned.caseRanges_eq] at hC
  unfold Rows.laid_unicode_utf8_first at hF
  rw [Pinned.utf8First_eq] at hF
  exact ⟨utf8Tabs_of_reads (ρ := Tryd.lays159_ren) { Tryd.lays159 with } u8Extra hF hA, caseVar_of_reads (ρ := Tryd.lays159_ren) { Tryd.lays159 with } Tryd.lays159.t206 caseExtra hC⟩
set_option maxRecDepth 100000 in
theorem lifted3 (os : Os) (started : os.Started) (H : Type) (enc : TypeId × Value → H) :
    ReturnsInHanded {} Tryd.checked os 3 .any (fun w args => (Rows.fnIsNumberMatchesByteModelSpec.pre enc Tryd.prog Tryd.f3 [] false w args ∧ laidMetH Tryd.prog laidL w) ∧ sizedMet enc Tryd.prog Tryd.f3 (OpenSpec.ofChange Rows.fnIsNumberMatchesByteModelSpec) false w args)
      (Rows.fnIsNumberMatchesByteModelSpec.post enc Tryd.prog Tryd.f3 false true false false) := by
  refine returnsInHanded_of_change_and (C := Tryd.checked) (X := fun w _ => laidMetH Tryd.prog laidL w) (fun _ _ _ hh h => h.of_heap hh) own started (by kernel_rfl) Tryd.func3
    (ChangeSpec.witness_shaped (enc := enc) (C := Tryd.checked) (os := os) (X := fun w _ => laidMetH Tryd.prog laidL w) false (World.laidAll Tryd.prog os laidL) #[.string ByteArray.empty] 8 (World.laidAll_os _ _ _)
      (World.shaped_of_ZipB (by kernel_rfl) (by kernel_rfl)) (by kernel_rfl) (by kernel_rfl) (by kernel_rfl)
      (by rw [MakeChecks.laidMetH_plain _ _ _ (by kernel_rfl)]; exact laidMet_laidAll _ (by kernel_rfl) (by kernel_rfl))) ?_
  intro W base args ds gs before hval0 hW _ _ hL _
  have hval : ∀ (j : Nat) t v, Tryd.f3.params[j]? = some t → args[j]? = some v → Value.okWide Tryd.prog W .any base t v := hval0
  have hW' := hW
  obtain ⟨p, q, hA0, hV, rfl, _, _⟩ := hW
  have hA : DataW.TrodAll enc Tryd.prog W 0 (fun _ => true) true Tryd.f3.params.toList args.toList ds p := hA0
  rw [Tryd.params3] at hA hval
  obtain ⟨v0, d0, rfl, rfl, h0⟩ := trodAll_one hA
  obtain ⟨rfl, rfl⟩ := trodVars_none hV
  obtain ⟨s, rfl, rfl, rfl, hs⟩ := ChangeMaps.open_string Tryd.underlying9 (hval 0 9 v0 rfl rfl) h0
  obtain ⟨hT, hC⟩ := tabs_of_laid hL
  simp only [List.append_nil] at hW'
  refine (law3 s W hC hT).mono fun e W' ⟨he, hb⟩ => ?_
  subst he
  exact ⟨_, rfl, _, _, _, [], _, [], hW', trodAll_mk1 (shut_bool Tryd.underlying4 _), trodAll_mk1 (ChangeMaps.shut_string Tryd.underlying9 hs), rfl, hb.frame _, fun h => by cases h⟩

theorem row3 : Rows.FnIsNumberMatchesByteModelSaid :=
  OpenClaim.holds_of_wide 3 Tryd.f3 rfl rfl rfl rfl rfl rfl rfl ⟨rfl, rfl, rfl, rfl, rfl⟩ rfl rfl rfl rfl rfl (by kernel_rfl) Tryd.func3 (by kernel_rfl)
    (of_decide_eq_true (by kernel_rfl)) (by unfold Func.isWrapper; first | (rw [if_pos (by decide +kernel)]; kernel_rfl) | (rw [if_neg (by decide +kernel)]; exact ⟨rfl, rfl⟩))
    (fun os started H enc _ => lifted3 os started H enc)
theorem isNumberMatchesByteModel : Rows.FnIsNumberMatchesByteModelCardSaid :=
  Claim7.holds_tied_plain_at .later [] [.data, .pinned, .pinned] true Rows.fnIsNumberMatchesByteModelCard.stood.harness false row3 (fun _ h => by cases h) (by kernel_rfl) (fun _ h => by cases h) fnIsNumberMatchesByteModel_row_tie rfl ⟨rfl, rfl⟩ (by kernel_rfl) rfl
    (fun f fn hf hfn => by
      obtain rfl : f = 3 := Option.some.inj ((show Tryd.prog.funcNamed Rows.fnIsNumberMatchesByteModelRow.func = some 3 by kernel_rfl).symm.trans hf) |>.symm
      obtain rfl : fn = Tryd.f3 := (Option.some.inj (Tryd.func3.symm.trans hfn)).symm
      exact ⟨by kernel_rfl, fun j t ht => by
        rw [Tryd.params3] at ht
        have hm : t ∈ [9] := by simpa using Array.mem_of_getElem? ht
        have hall : ([9].all fun u => !Tryd.prog.wantsStandIn u) = true := by kernel_rfl
        exact (show Tryd.prog.wantsStandIn t = false by simpa using List.all_eq_true.1 hall t hm)⟩)
    (by kernel_rfl)
end Go.Proofs.Qxb6601037aDoor
