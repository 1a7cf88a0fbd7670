/-
  check: one ASCII byte.
-/
import Derived.Test.Qxb6614616aFmtC10
namespace Go.Proofs.Qxb6614616aFmt
open Go.RowKit Go.Lib
set_option linter.unusedSimpArgs false
set_option maxRecDepth 100000 in
set_option maxHeartbeats 8000000 in
theorem check_asc (B a k : Nat) (p : Nat → Nat) (bad ref o : Bool) (q : ByteArray) (c : Nat) (w : World) (h : Nrm B a k p bad ref o q w) (hq : o = true → q.size ≤ 2) (hc1 : (c : Int) ≤ 127) :
    Calls Tryf.prog 14 #[.pointer (some ⟨B, 0, none⟩), .int .u8 c] w fun e w' => e = .returned (.tuple #[]) ∧
      Nrm B a k p bad (ref || !allow c) (oNext o q) (qNext o q c) w' ∧ Below B w w' := by
  obtain ⟨q', hqq⟩ : ∃ q', qNext o q c = q' := ⟨_, rfl⟩
  obtain ⟨o', hoo⟩ : ∃ o', oNext o q = o' := ⟨_, rfl⟩
  rw [hqq, hoo]
  generalize hQ : (fun (e : Ending) (w' : World) => e = .returned (.tuple #[]) ∧ Nrm B a k p bad (ref || !allow c) o' q' w' ∧ Below B w w') = Q
  have HQ : Hid _ := hQ; clear hQ
  have HQQ : Hid _ := hqq
  have HOO : Hid _ := hoo
  have c25 := h.open_
  have c24 := h.quote
  have f24 := h.free 24
  have f25 := h.free 25
  have hsz := h.size
  have H := hide h
  clear h hqq hoo
  have hcv := conv1 w c
  cases o
  · clear hq hcv
    go_enter Tryf.func14, Tryf.ntmps14
    go_wp2_with fail
    refine calls_gen (fun w' => Nrm B a k p bad ref o' q' w' ∧ Below B w w') ?_ ?_
    · have h := H.out
      have e3 := HQQ.out
      have e4 := HOO.out
      subst e3 e4
      exact ⟨h, Below.refl _ _⟩
    · rintro w1 ⟨h1, hb1⟩
      clear c24 c25 f24 f25 hsz
      have HB1 := hide hb1
      have H1 := hide h1
      have HU := hide (unreserved_any c w1)
      have HV := hide (reserved_any c w1)
      obtain ⟨v, c23, hv⟩ := h1.err
      have HR := hide (refuse_any (c : Int) B w1 ref v h1.size hv c23 (h1.free 23))
      clear h1 c23 hv hb1
      rcases (by unfold allow; cases unrD c <;> cases resD c <;> by_cases h5 : c = 37 <;> simp [h5] : (unrD c = true ∧ allow c = true) ∨ (unrD c = false ∧ resD c = true ∧ allow c = true) ∨ (unrD c = false ∧ resD c = false ∧ c = 37 ∧ allow c = true) ∨ (unrD c = false ∧ resD c = false ∧ c ≠ 37 ∧ allow c = false)) with ⟨hu, hal⟩ | ⟨hu, hv, hal⟩ | ⟨hu, hv, hc, hal⟩ | ⟨hu, hv, hc, hal⟩
      · rw [show (ref || !allow c) = ref by rw [hal]; simp] at HQ
        rw [hu] at HU
        clear hu HR HV hal
        refine (unhide HU).mono ?_
        rintro e w' ⟨rfl, rfl⟩
        go_wp2_with fail
        go_end0
        rw [← HQ.out]
        exact ⟨rfl, H1.out, HB1.out⟩
      · rw [show (ref || !allow c) = ref by rw [hal]; simp] at HQ
        rw [hu] at HU
        rw [hv] at HV
        clear hu hv HR hal
        refine (unhide HU).mono ?_
        rintro e w' ⟨rfl, rfl⟩
        go_wp2_with fail
        refine (unhide HV).mono ?_
        rintro e w' ⟨rfl, rfl⟩
        go_wp2_with fail
        go_end0
        rw [← HQ.out]
        exact ⟨rfl, H1.out, HB1.out⟩
      · rw [show (ref || !allow c) = ref by rw [hal]; simp] at HQ
        rw [hu] at HU
        rw [hv] at HV
        clear hu hv HR hal
        have hc' : ((c : Int) != 37) = false := by simp; omega
        clear hc
        refine (unhide HU).mono ?_
        rintro e w' ⟨rfl, rfl⟩
        go_wp2_with fail
        refine (unhide HV).mono ?_
        rintro e w' ⟨rfl, rfl⟩
        go_wp2_with fail
        go_end0
        rw [← HQ.out]
        exact ⟨rfl, H1.out, HB1.out⟩
      · rw [show (ref || !allow c) = true by rw [hal]; simp] at HQ
        rw [hu] at HU
        rw [hv] at HV
        clear hu hv hal
        have hc' : ((c : Int) != 37) = true := by simp; omega
        clear hc
        refine (unhide HU).mono ?_
        rintro e w' ⟨rfl, rfl⟩
        go_wp2_with fail
        refine (unhide HV).mono ?_
        rintro e w' ⟨rfl, rfl⟩
        go_wp2_with fail
        refine (unhide HR).mono ?_
        rintro e w4 ⟨rfl, hw4⟩
        have HW4 := hide hw4
        clear hw4
        go_wp2_with fail
        go_end0
        rw [← HQ.out]
        exact ⟨rfl, H1.out.refused HW4.out, HB1.out.trans HW4.out.below⟩
  · have hs1 : (9223372036854775807 < q.size + (one c).size) = False := eq_false (by have : (one c).size = 1 := rfl; have := hq rfl; omega)
    have HX1 := hide (show (one c).size = 1 from rfl)
    obtain ⟨x1, hx1⟩ : ∃ x1, one c = x1 := ⟨_, rfl⟩
    rw [hx1] at hs1 HX1 hcv
    have HX : Hid _ := hx1
    clear hq hx1
    go_enter Tryf.func14, Tryf.ntmps14
    go_wp2_with fail
    go_region
    go_wp2_with fail
    refine calls_gen (fun w' => Nrm B a k p bad ref o' q' w' ∧ Below B w w') ?_ ?_
    · have h := H.out
      have e3 := HQQ.out
      have e4 := HOO.out
      have e5 := HX.out
      subst e3 e4 e5
      have hd : decide ((q.size : Int) + ((one c).size : Int) < 3) = oNext true q := decide_eq_decide.2 (by have := HX1.out; omega)
      rw [hd]
      have u1 := Upd.set c24 (.string (q ++ one c))
      have n1 := h.setQuote u1
      have u2 := Upd.set n1.open_ (.bool (oNext true q))
      have n2 := n1.setOpen u2
      exact ⟨n2.below ((Below.refl (B + 1) _).alloc n2.size _).drew (Nat.lt_succ_self B), ((u1.below.trans u2.below).alloc (Nat.le_of_lt n2.size) _).drew⟩
    · rintro w1 ⟨h1, hb1⟩
      clear c24 c25 f24 f25 hsz
      have HB1 := hide hb1
      have H1 := hide h1
      have HU := hide (unreserved_any c w1)
      have HV := hide (reserved_any c w1)
      obtain ⟨v, c23, hv⟩ := h1.err
      have HR := hide (refuse_any (c : Int) B w1 ref v h1.size hv c23 (h1.free 23))
      clear h1 c23 hv hb1
      rcases (by unfold allow; cases unrD c <;> cases resD c <;> by_cases h5 : c = 37 <;> simp [h5] : (unrD c = true ∧ allow c = true) ∨ (unrD c = false ∧ resD c = true ∧ allow c = true) ∨ (unrD c = false ∧ resD c = false ∧ c = 37 ∧ allow c = true) ∨ (unrD c = false ∧ resD c = false ∧ c ≠ 37 ∧ allow c = false)) with ⟨hu, hal⟩ | ⟨hu, hv, hal⟩ | ⟨hu, hv, hc, hal⟩ | ⟨hu, hv, hc, hal⟩
      · rw [show (ref || !allow c) = ref by rw [hal]; simp] at HQ
        rw [hu] at HU
        clear hu HR HV hal
        refine (unhide HU).mono ?_
        rintro e w' ⟨rfl, rfl⟩
        go_wp2_with fail
        go_end0
        rw [← HQ.out]
        exact ⟨rfl, H1.out, HB1.out⟩
      · rw [show (ref || !allow c) = ref by rw [hal]; simp] at HQ
        rw [hu] at HU
        rw [hv] at HV
        clear hu hv HR hal
        refine (unhide HU).mono ?_
        rintro e w' ⟨rfl, rfl⟩
        go_wp2_with fail
        refine (unhide HV).mono ?_
        rintro e w' ⟨rfl, rfl⟩
        go_wp2_with fail
        go_end0
        rw [← HQ.out]
        exact ⟨rfl, H1.out, HB1.out⟩
      · rw [show (ref || !allow c) = ref by rw [hal]; simp] at HQ
        rw [hu] at HU
        rw [hv] at HV
        clear hu hv HR hal
        have hc' : ((c : Int) != 37) = false := by simp; omega
        clear hc
        refine (unhide HU).mono ?_
        rintro e w' ⟨rfl, rfl⟩
        go_wp2_with fail
        refine (unhide HV).mono ?_
        rintro e w' ⟨rfl, rfl⟩
        go_wp2_with fail
        go_end0
        rw [← HQ.out]
        exact ⟨rfl, H1.out, HB1.out⟩
      · rw [show (ref || !allow c) = true by rw [hal]; simp] at HQ
        rw [hu] at HU
        rw [hv] at HV
        clear hu hv hal
        have hc' : ((c : Int) != 37) = true := by simp; omega
        clear hc
        refine (unhide HU).mono ?_
        rintro e w' ⟨rfl, rfl⟩
        go_wp2_with fail
        refine (unhide HV).mono ?_
        rintro e w' ⟨rfl, rfl⟩
        go_wp2_with fail
        refine (unhide HR).mono ?_
        rintro e w4 ⟨rfl, hw4⟩
        have HW4 := hide hw4
        clear hw4
        go_wp2_with fail
        go_end0
        rw [← HQ.out]
        exact ⟨rfl, H1.out.refused HW4.out, HB1.out.trans HW4.out.below⟩
end Go.Proofs.Qxb6614616aFmt
