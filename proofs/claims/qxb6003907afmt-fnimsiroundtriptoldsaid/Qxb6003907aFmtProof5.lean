/-
  FnIMSIRoundTrip: the long inputs, any input, THE ROW, AND THE TOLD AND TIED CARD.
-/
import Derived.Test.Qxb6003907aFmtTie
import Derived.Test.Qxb6003907aFmtCards
import Derived.Test.Qxb6003907aFmtI10
import Derived.ChangeMaps5
namespace Go.Proofs.Qxb6003907aFmt
open Go.ChangeShapes Go.WideShapes Go.ChangeAt Go.RowKit
open Go.Extern.Stop Go.Stop Go.Extern
set_option linter.unusedSimpArgs false
set_option maxRecDepth 100000 in
set_option maxHeartbeats 4000000 in
theorem law5_long (ao : Option Addr) (n cap : Nat) (s : ByteArray) (w : World) (h : ¬ ((s.size : Int) ≤ 262144 ∧ (n : Int) + s.size ≤ 1048576)) :
    Calls Tryf.prog 5 #[.slice ao n cap, .string s] w fun e w' => e = .returned (.bool true) ∧ Below w.heap.size w w' := by
  rcases (by omega : (1048577 ≤ (n : Int)) ∨ ((n : Int) ≤ 1048576 ∧ 1048577 ≤ (s.size : Int)) ∨ ((n : Int) ≤ 1048576 ∧ (s.size : Int) ≤ 1048576 ∧ 1048577 ≤ (n : Int) + s.size) ∨ (262145 ≤ (s.size : Int) ∧ (n : Int) + s.size ≤ 1048576)) with h | h | h | h
  · go_enter Tryf.func5, Tryf.ntmps5
    go_wp2
    all_goals first | (exfalso; omega) | (go_ret; exact ⟨rfl, Below.refl _ _⟩)
  · obtain ⟨h1, h2⟩ := h
    go_enter Tryf.func5, Tryf.ntmps5
    go_wp2
    all_goals first | (exfalso; omega) | (go_ret; exact ⟨rfl, Below.refl _ _⟩)
  · obtain ⟨h1, h2, h3⟩ := h
    go_enter Tryf.func5, Tryf.ntmps5
    go_wp2
    all_goals first | (exfalso; omega) | (go_ret; exact ⟨rfl, Below.refl _ _⟩)
  · obtain ⟨h1, h2⟩ := h
    have HZ := hide (zz17_any ao n cap s w h2)
    clear h2
    go_enter Tryf.func5, Tryf.ntmps5
    go_wp2_with fail
    refine (unhide HZ).mono ?_
    rintro e w0 ⟨rfl, h0⟩
    obtain rfl : w = w0 := h0.symm
    clear h0
    go_wp2_with fail
    all_goals first | (exfalso; omega) | (go_ret; exact ⟨rfl, Below.refl _ _⟩)
theorem law5_any {H : Type} {enc : TypeId × Value → H} {W : World} {base : Nat} {v : Value} {d : DataW H} {p : List MemPlace} (s : ByteArray) (hval : Value.okWide Tryf.prog W .any base 22 v) (h : DataW.Trod enc Tryf.prog W 0 (fun _ => true) true 22 v d p) :
    Calls Tryf.prog 5 #[v, .string s] W fun e w' => e = .returned (.bool true) ∧ Below W.heap.size W w' := by
  rcases open_bytes hval h with rfl | ⟨a, len, cap, x, rfl, hx, hr⟩
  · by_cases hb : (s.size : Int) ≤ 262144 ∧ ((0 : Nat) : Int) + s.size ≤ 1048576
    · exact law5_main none 0 0 (fun _ => 0) s W hb.1 hb.2 (fun _ => ⟨rfl, rfl⟩) (fun a ha => by cases ha)
    · exact law5_long none 0 0 s W hb
  · by_cases hb : (s.size : Int) ≤ 262144 ∧ (len : Int) + s.size ≤ 1048576
    · exact law5_main (some a) len cap x s W hb.1 hb.2 (fun h => by cases h) (fun a' ha h1 => by cases ha; exact hr h1)
    · exact law5_long (some a) len cap s W hb
set_option maxRecDepth 100000 in
set_option maxHeartbeats 1600000 in
theorem lifted5 (os : Os) (started : os.Started) (H : Type) (enc : TypeId × Value → H) :
    ReturnsInTold none {} Tryf.checked os 5 .any Input.okWide ((OpenSpec.ofChange Rows.fnIMSIRoundTripSpec).preRow enc Tryf.prog Tryf.f5 [] false Rows.fnIMSIRoundTripRow.laid)
      (fun F => ((OpenSpec.ofChange Rows.fnIMSIRoundTripSpec).at F.told).post enc Tryf.prog Tryf.f5 false true false false) (aloneAtReturn Tryf.prog) nothingAlways := by
  refine returnsInTold_of_row (C := Tryf.checked) (s := OpenSpec.ofChange Rows.fnIMSIRoundTripSpec) (by kernel_rfl) own started (by kernel_rfl) Tryf.func5
    (OpenSpec.witness_stopped_at (enc := enc) (C := Tryf.checked) false (World.laidAll Tryf.prog os laidL) #[.slice none 0 0, .string ByteArray.empty] (World.laidAll_os _ _ _) (by kernel_rfl) (by kernel_rfl) (by kernel_rfl)
      (OpenSpec.preRow_of_B rfl 8 (by kernel_rfl) (by kernel_rfl) (met_laid os _))) ?_
  intro F W base0 args ds gs before _ _ hval0 hW _ _ _ hL _
  have hval : ∀ (j : Nat) t v, Tryf.f5.params[j]? = some t → args[j]? = some v → Value.okWide Tryf.prog W .any base0 t v := hval0
  have hW' := hW
  obtain ⟨p, q, hA0, hV, rfl, hfz, hnd⟩ := hW
  have hA : DataW.TrodAll enc Tryf.prog W 0 (fun _ => true) true Tryf.f5.params.toList args.toList ds p := hA0
  rw [Tryf.params5] at hA hval
  obtain ⟨v0, v1, d0, d1, p0, p1, rfl, rfl, rfl, h0, h1⟩ := trodAll_two hA
  obtain ⟨s, rfl, rfl, rfl, hs⟩ := ChangeMaps.open_string Tryf.underlying9 (hval 1 9 v1 rfl rfl) h1
  obtain ⟨rfl, rfl⟩ := trodVars_none hV
  simp only [List.append_nil] at hW'
  have hlt : ∀ x ∈ p0, x.block < W.heap.size := fun x hx => by simpa using hW'.lt x (by simpa using hx)
  refine (law5_any s (hval 0 22 v0 rfl rfl) h0).mono fun e W' ⟨he, hb⟩ => ?_
  subst he
  have h0' := Below.trod laidOut (by kernel_rfl) (of_decide_eq_true (by kernel_rfl)) h0 hb hlt
  exact ⟨_, rfl, _, _, _, [], _, [], hW', trodAll_mk1 (shut_bool Tryf.underlying4 _), (by have e5 := trodAll_mk2 h0' (ChangeMaps.shut_string (enc := enc) Tryf.underlying9 hs); simp only [List.append_nil] at e5; exact e5), rfl, hb.frame _, fun h => by cases h⟩

theorem imsiRoundTrip : Rows.FnIMSIRoundTripToldSaid :=
  Claim7.holds_of_told_tied_any_at .later 5 Tryf.f5 "fmt.errorf" [] [] Rows.fnIMSIRoundTripCard.stood.harness false false [.data, .pinned] true (by kernel_rfl) rfl rfl rfl laidOut (by kernel_rfl) rfl ⟨rfl, rfl, rfl, rfl, rfl, rfl, rfl⟩ rfl rfl (by kernel_rfl) (by kernel_rfl) Tryf.func5 (by kernel_rfl)
    (of_decide_eq_true (by kernel_rfl)) (of_decide_eq_true (by kernel_rfl)) stops.symm rfl stopKnobs.symm (by kernel_rfl)
    (by kernel_rfl) (by kernel_rfl) (by kernel_rfl) (by kernel_rfl) (by kernel_rfl) (by kernel_rfl) (by kernel_rfl) (by kernel_rfl) (by kernel_rfl) rfl (by kernel_rfl) rfl rfl
    rfl rfl
    rfl (by kernel_rfl) (by kernel_rfl) (by kernel_rfl) (by decide) (by kernel_rfl) fnIMSIRoundTrip_row_tie
    (OpenClaim.moreEntering_of (by kernel_rfl) (by kernel_rfl) (by kernel_rfl) (by kernel_rfl) (by kernel_rfl) (by kernel_rfl) (by kernel_rfl) (by kernel_rfl) (by kernel_rfl) (by kernel_rfl))
    ⟨_, WideRow.started_initial, quietOs _⟩
    (fun os started _ H enc _ => lifted5 os started H enc)
end Go.Proofs.Qxb6003907aFmt
