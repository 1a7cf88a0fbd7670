/-
  FnWithoutDotSegmentsIsFinal: THE ROW, AND THE TIED CARD.
-/
import Derived.Test.Qxb6614616aDoorTie
import Derived.Test.Qxb6614616aDoorCards
import Derived.Test.Qxb6614616aDoorG4
import Derived.ProofKit
import Derived.OpenShut
import Derived.LaidMore
import Derived.Lay
import Derived.ChangeMaps5
import Derived.SevenTiedAt
import Derived.Stop.Joined
import Derived.Stop.LaidErr
namespace Go.Proofs.Qxb6614616aDoor
open Go.ChangeShapes Go.WideShapes Go.ChangeAt Go.RowKit
theorem own : ownKnob Tryd.prog.godebug = none := by kernel_rfl
def laidL : List (String × DataW Unit) := Rows.fnWithoutDotSegmentsIsFinalRow.laid
theorem cons_mk {H : Type} {enc : TypeId × Value → H} {P : Program} {w : World} {base : Nat} {sp : Nat → Bool} {held : Bool} {t : TypeId} {ts : List TypeId} {v : Value} {vs : List Value} {d : DataW H} {ds : List (DataW H)}
    (h : DataW.Trod enc P w base sp held t v d []) (hr : DataW.TrodAll enc P w base sp held ts vs ds []) : DataW.TrodAll enc P w base sp held (t :: ts) (v :: vs) (d :: ds) [] := ⟨[], [], h, hr, rfl⟩
set_option maxRecDepth 100000 in
theorem lifted4 (os : Os) (started : os.Started) (H : Type) (enc : TypeId × Value → H) :
    ReturnsInHanded {} Tryd.checked os 4 .any (fun w args => (Rows.fnWithoutDotSegmentsIsFinalSpec.pre enc Tryd.prog Tryd.f4 [] false w args ∧ laidMetH Tryd.prog laidL w) ∧ sizedMet enc Tryd.prog Tryd.f4 (OpenSpec.ofChange Rows.fnWithoutDotSegmentsIsFinalSpec) false w args)
      (Rows.fnWithoutDotSegmentsIsFinalSpec.post enc Tryd.prog Tryd.f4 false true false false) := by
  refine returnsInHanded_of_change_and (C := Tryd.checked) (X := fun w _ => laidMetH Tryd.prog laidL w) (fun _ _ _ hh h => h.of_heap hh) own started (by kernel_rfl) Tryd.func4
    (ChangeSpec.witness_shaped (enc := enc) (C := Tryd.checked) (os := os) (X := fun w _ => laidMetH Tryd.prog laidL w) false (World.laidAll Tryd.prog os laidL) #[.string ByteArray.empty, .string ByteArray.empty, .string ByteArray.empty, .string ByteArray.empty, .string ByteArray.empty, .string ByteArray.empty, .bool false, .bool false, .bool false, .bool false] 8 (World.laidAll_os _ _ _)
      (World.shaped_of_ZipB (by kernel_rfl) (by kernel_rfl)) (by kernel_rfl) (by kernel_rfl) (by kernel_rfl)
      (by rw [MakeChecks.laidMetH_plain _ _ _ (by kernel_rfl)]; exact laidMet_laidAll _ (by kernel_rfl) (by kernel_rfl))) ?_
  intro W base args ds gs before hval0 hW _ _ hL _
  have hval : ∀ (j : Nat) t v, Tryd.f4.params[j]? = some t → args[j]? = some v → Value.okWide Tryd.prog W .any base t v := hval0
  have hW' := hW
  obtain ⟨p, q, hA0, hV, rfl, _, _⟩ := hW
  have hA : DataW.TrodAll enc Tryd.prog W 0 (fun _ => true) true Tryd.f4.params.toList args.toList ds p := hA0
  rw [Tryd.params4] at hA hval
  obtain ⟨v0, vs0, d0, ds0, p0, q0, e0, rfl, rfl, h0, hA⟩ := trodAll_cons hA
  obtain ⟨v1, vs1, d1, ds1, p1, q1, rfl, rfl, rfl, h1, hA⟩ := trodAll_cons hA
  obtain ⟨v2, vs2, d2, ds2, p2, q2, rfl, rfl, rfl, h2, hA⟩ := trodAll_cons hA
  obtain ⟨v3, vs3, d3, ds3, p3, q3, rfl, rfl, rfl, h3, hA⟩ := trodAll_cons hA
  obtain ⟨v4, vs4, d4, ds4, p4, q4, rfl, rfl, rfl, h4, hA⟩ := trodAll_cons hA
  obtain ⟨v5, vs5, d5, ds5, p5, q5, rfl, rfl, rfl, h5, hA⟩ := trodAll_cons hA
  obtain ⟨v6, vs6, d6, ds6, p6, q6, rfl, rfl, rfl, h6, hA⟩ := trodAll_cons hA
  obtain ⟨v7, vs7, d7, ds7, p7, q7, rfl, rfl, rfl, h7, hA⟩ := trodAll_cons hA
  obtain ⟨v8, vs8, d8, ds8, p8, q8, rfl, rfl, rfl, h8, hA⟩ := trodAll_cons hA
  obtain ⟨v9, vs9, d9, ds9, p9, q9, rfl, rfl, rfl, h9, hA⟩ := trodAll_cons hA
  obtain ⟨rfl, rfl, rfl⟩ := trodAll_nil hA
  obtain rfl : args = #[v0, v1, v2, v3, v4, v5, v6, v7, v8, v9] := by cases args; simpa using e0
  obtain ⟨rfl, rfl⟩ := trodVars_none hV
  obtain ⟨s0, rfl, rfl, rfl, z0⟩ := ChangeMaps.open_string Tryd.underlying9 (hval 0 9 v0 rfl rfl) h0
  obtain ⟨s1, rfl, rfl, rfl, z1⟩ := ChangeMaps.open_string Tryd.underlying9 (hval 1 9 v1 rfl rfl) h1
  obtain ⟨s2, rfl, rfl, rfl, z2⟩ := ChangeMaps.open_string Tryd.underlying9 (hval 2 9 v2 rfl rfl) h2
  obtain ⟨s3, rfl, rfl, rfl, z3⟩ := ChangeMaps.open_string Tryd.underlying9 (hval 3 9 v3 rfl rfl) h3
  obtain ⟨s4, rfl, rfl, rfl, z4⟩ := ChangeMaps.open_string Tryd.underlying9 (hval 4 9 v4 rfl rfl) h4
  obtain ⟨s5, rfl, rfl, rfl, z5⟩ := ChangeMaps.open_string Tryd.underlying9 (hval 5 9 v5 rfl rfl) h5
  obtain ⟨b6, rfl, rfl, rfl⟩ := open_bool Tryd.underlying4 (hval 6 4 v6 rfl rfl) h6
  obtain ⟨b7, rfl, rfl, rfl⟩ := open_bool Tryd.underlying4 (hval 7 4 v7 rfl rfl) h7
  obtain ⟨b8, rfl, rfl, rfl⟩ := open_bool Tryd.underlying4 (hval 8 4 v8 rfl rfl) h8
  obtain ⟨b9, rfl, rfl, rfl⟩ := open_bool Tryd.underlying4 (hval 9 4 v9 rfl rfl) h9
  simp only [List.append_nil] at hW'
  refine (law4 s0 s1 s2 s3 s4 s5 b6 b7 b8 b9 W).mono fun e W' ⟨he, hb⟩ => ?_
  subst he
  exact ⟨_, rfl, _, _, _, [], _, [], hW', trodAll_mk1 (shut_bool Tryd.underlying4 _),
    cons_mk (ChangeMaps.shut_string Tryd.underlying9 z0) (cons_mk (ChangeMaps.shut_string Tryd.underlying9 z1) (cons_mk (ChangeMaps.shut_string Tryd.underlying9 z2) (cons_mk (ChangeMaps.shut_string Tryd.underlying9 z3) (cons_mk (ChangeMaps.shut_string Tryd.underlying9 z4) (cons_mk (ChangeMaps.shut_string Tryd.underlying9 z5) (cons_mk (shut_bool Tryd.underlying4 _) (cons_mk (shut_bool Tryd.underlying4 _) (cons_mk (shut_bool Tryd.underlying4 _) (cons_mk (shut_bool Tryd.underlying4 _) trodAll_mk0))))))))),
    rfl, hb.frame _, fun h => by cases h⟩

theorem row4 : Rows.FnWithoutDotSegmentsIsFinalSaid :=
  OpenClaim.holds_of_wide 4 Tryd.f4 rfl rfl rfl rfl rfl rfl rfl ⟨rfl, rfl, rfl, rfl, rfl⟩ rfl rfl rfl rfl rfl (by kernel_rfl) Tryd.func4 (by kernel_rfl)
    (of_decide_eq_true (by kernel_rfl)) (by unfold Func.isWrapper; first | (rw [if_pos (by decide +kernel)]; kernel_rfl) | (rw [if_neg (by decide +kernel)]; exact ⟨rfl, rfl⟩))
    (fun os started H enc _ => lifted4 os started H enc)
theorem withoutDotSegmentsIsFinal : Rows.FnWithoutDotSegmentsIsFinalCardSaid :=
  Claim7.holds_tied_plain_at .later [] [.data, .pinned] true Rows.fnWithoutDotSegmentsIsFinalCard.stood.harness false row4 (fun _ h => by cases h) (by kernel_rfl) (fun _ h => by cases h) fnWithoutDotSegmentsIsFinal_row_tie rfl ⟨rfl, rfl⟩ (by kernel_rfl) rfl
    (fun f fn hf hfn => by
      obtain rfl : f = 4 := Option.some.inj ((show Tryd.prog.funcNamed Rows.fnWithoutDotSegmentsIsFinalRow.func = some 4 by kernel_rfl).symm.trans hf) |>.symm
      obtain rfl : fn = Tryd.f4 := (Option.some.inj (Tryd.func4.symm.trans hfn)).symm
      exact ⟨by kernel_rfl, fun j t ht => by
        rw [Tryd.params4] at ht
        have hm : t ∈ [9, 9, 9, 9, 9, 9, 4, 4, 4, 4] := by simpa using Array.mem_of_getElem? ht
        have hall : ([9, 9, 9, 9, 9, 9, 4, 4, 4, 4].all fun u => !Tryd.prog.wantsStandIn u) = true := by kernel_rfl
        exact (show Tryd.prog.wantsStandIn t = false by simpa using List.all_eq_true.1 hall t (by simpa using hm))⟩)
    (by kernel_rfl)
end Go.Proofs.Qxb6614616aDoor
