/-
  AppendIMSI of a bad text; the text's test; lawIMSIText.
-/
import Derived.Test.Qxb6003907aFmtI4
namespace Go.Proofs.Qxb6003907aFmt
open Go.RowKit
set_option linter.unusedSimpArgs false
def isDig (b : UInt8) : Bool := decide (48 ≤ b.toNat ∧ b.toNat ≤ 57)
def cutL : List UInt8 := [48, 49, 50, 51, 52, 53, 54, 55, 56, 57]
set_option maxRecDepth 100000 in
theorem cut_dig256 : ∀ n : Fin 256, cutL.contains (UInt8.ofNat n.val) = isDig (UInt8.ofNat n.val) := by decide
theorem cut_dig (b : UInt8) : cutL.contains b = isDig b := by
  have := cut_dig256 ⟨b.toNat, UInt8.toNat_lt b⟩
  simpa using this
def textOk (s : ByteArray) : Bool := decide (1 ≤ s.size ∧ s.size ≤ 15) && s.data.toList.all isDig
theorem dropWhile_nil {α : Type} (p : α → Bool) (l : List α) : l.dropWhile p = [] ↔ l.all p = true := by
  induction l with
  | nil => simp
  | cons a l ih =>
    by_cases h : p a = true
    · rw [List.dropWhile_cons_of_pos h, ih]; simp [h]
    · rw [List.dropWhile_cons_of_neg h]; simp [h]
theorem dropWhile_all {α : Type} (p : α → Bool) (l : List α) (h : (l.dropWhile p).all p = true) : l.dropWhile p = [] := by
  induction l with
  | nil => rfl
  | cons a l ih =>
    by_cases hp : p a = true
    · rw [List.dropWhile_cons_of_pos hp] at h ⊢; exact ih h
    · rw [List.dropWhile_cons_of_neg hp] at h
      simp [hp] at h
theorem trim_nil (l : List UInt8) : Lib.trimS l cutL = [] ↔ l.all isDig = true := by
  unfold Lib.trimS Lib.trimLeftS Lib.trimRightS
  simp only [cut_dig]
  rw [dropWhile_nil, List.all_reverse]
  constructor
  · intro h
    have := dropWhile_all _ _ h
    rw [dropWhile_nil, List.all_reverse] at this
    exact this
  · intro h
    have : l.reverse.dropWhile isDig = [] := by rw [dropWhile_nil, List.all_reverse]; exact h
    rw [this]; rfl
theorem toList_empty (s : ByteArray) : s.toList.isEmpty = decide (s.size = 0) := by
  rw [Lib.toList_data, Lib.size_eq]
  cases s.data.toList <;> simp
theorem mk_empty (l : List UInt8) : (ByteArray.mk l.toArray).toList.isEmpty = l.isEmpty := by
  rw [Lib.toList_data]
set_option maxRecDepth 100000 in
set_option maxHeartbeats 2000000 in
theorem append_bad (s : ByteArray) (hok : textOk s = false) (hsz : s.size ≤ 1048576) (v : Value) (w : World) :
    Calls Tryf.prog 18 #[v, .string s] w fun e w' => (∃ t x, e = .returned (.tuple #[v, .iface t x])) ∧ Below w.heap.size w w' := by
  generalize hQ : (fun (e : Ending) (w' : World) => (∃ t x, e = .returned (.tuple #[v, .iface t x])) ∧ Below w.heap.size w w') = Q
  have HQ := hide hQ
  clear hQ
  have HT := hide (fun W => Tryf.strings_Trim_digits s W (by omega))
  have hE := toList_empty s
  by_cases h0 : s.size = 0
  · rw [decide_eq_true h0] at hE
    clear hsz hok
    go_enter Tryf.func18, Tryf.ntmps18
    go_wp2_with fail
    refine (errorfA s w.heap.size _ (by simp) (by simp)).mono ?_
    rintro e w2 ⟨⟨t, x, rfl⟩, hb⟩
    have HB := hide (((Below.refl w.heap.size w).alloc (Nat.le_refl _) _).trans (hb.mono (by simp)))
    clear hb
    go_wp2_with fail
    rw [← HQ.out]
    exact ⟨⟨t, x, rfl⟩, HB.out⟩
  · rw [decide_eq_false h0] at hE
    by_cases h15 : 16 ≤ s.size
    · have h15' : (16 : Int) ≤ s.size := by omega
      clear hsz hok h15
      go_enter Tryf.func18, Tryf.ntmps18
      go_wp2_with fail
      refine (errorfA s w.heap.size _ (by simp) (by simp)).mono ?_
      rintro e w2 ⟨⟨t, x, rfl⟩, hb⟩
      have HB := hide (((Below.refl w.heap.size w).alloc (Nat.le_refl _) _).trans (hb.mono (by simp)))
      clear hb
      go_wp2_with fail
      rw [← HQ.out]
      exact ⟨⟨t, x, rfl⟩, HB.out⟩
    · have h15' : (s.size : Int) ≤ 15 := by omega
      have hall : s.data.toList.all isDig = false := by
        unfold textOk at hok
        rw [decide_eq_true (by omega)] at hok
        simpa using hok
      obtain ⟨T, hT⟩ : ∃ T : List UInt8, Lib.trimS s.data.toList [48, 49, 50, 51, 52, 53, 54, 55, 56, 57] = T := ⟨_, rfl⟩
      have hTe : T.isEmpty = false := by
        cases T with
        | nil =>
          have := (trim_nil s.data.toList).1 hT
          rw [hall] at this
          cases this
        | cons a t => rfl
      have hME := mk_empty T
      rw [hTe] at hME
      rw [hT] at HT
      obtain ⟨TB, hTB⟩ : ∃ TB, ByteArray.mk T.toArray = TB := ⟨_, rfl⟩
      rw [hTB] at HT hME
      clear hsz hok h15 hall hT hTe hTB
      go_enter Tryf.func18, Tryf.ntmps18
      go_wp2_with ((go_at_call 23; refine (unhide HT _).mono ?_; rintro e w1 ⟨rfl, hb1⟩; have HB1 := hide hb1; clear hb1))
      refine (errorfA s w1.heap.size _ (by simp) (by simp)).mono ?_
      rintro e w2 ⟨⟨t, x, rfl⟩, hb⟩
      have HB := hide (HB1.out.trans ((((Below.refl w1.heap.size w1).alloc (Nat.le_refl _) _).trans (hb.mono (by simp))).mono HB1.out.size))
      clear hb
      go_wp2_with fail
      rw [← HQ.out]
      exact ⟨⟨t, x, rfl⟩, HB.out⟩
set_option maxRecDepth 100000 in
set_option maxHeartbeats 2000000 in
theorem text_any (s : ByteArray) (w : World) (hsz : (s.size : Int) ≤ 1048576) : Calls Tryf.prog 19 #[.string s] w fun e w' => e = .returned (.bool (textOk s)) ∧ w' = w := by
  generalize hQ : (fun (e : Ending) (w' : World) => e = .returned (.bool (textOk s)) ∧ w' = w) = Q
  have HQ := hide hQ
  clear hQ
  by_cases hl : 1 ≤ s.size ∧ s.size ≤ 15
  · have h1 : (1 : Int) ≤ s.size := by omega
    have h15 : (s.size : Int) ≤ 15 := by omega
    have HL := hide hl
    clear hl hsz
    go_enter Tryf.func19, Tryf.ntmps19
    go_wp2_with fail
    go_loop [3] (fun ii => ∃ i : Nat, i ≤ s.size ∧ ii = .int .i64 i ∧ Hid (∀ t b, t < i → s.data.toList[t]? = some b → isDig b = true)) (fun ii => s.size - (intOf ii).toNat)
    case atStart => exact ⟨0, Nat.zero_le _, rfl, nofun⟩
    case round =>
      obtain ⟨i, hi, rfl, hA⟩ := hrel
      by_cases hlt : i < s.size
      · have hltI : (i : Int) < s.size := by omega
        obtain ⟨x, hx⟩ : ∃ x, s[i]'hlt = x := ⟨_, rfl⟩
        have hxl : s.data.toList[i]? = some x := by
          rw [← hx, Array.getElem?_toList]
          exact Array.getElem?_eq_getElem hlt
        have hxs : ((s[i]'hlt).toNat : Int) = (x.toNat : Int) := by rw [hx]
        have HXL := hide hxl
        clear hxl
        by_cases hd : 48 ≤ x.toNat ∧ x.toNat ≤ 57
        · obtain ⟨d1, d2⟩ := hd
          have d1' : (48 : Int) ≤ x.toNat := by omega
          have d2' : (x.toNat : Int) ≤ 57 := by omega
          clear hx
          go_wp2_with fail
          go_round
          case rel =>
            refine ⟨i + 1, by omega, by go_num, fun t b ht hb => ?_⟩
            by_cases e : t = i
            · subst e
              obtain rfl := Option.some.inj (HXL.out.symm.trans hb)
              exact decide_eq_true ⟨d1, d2⟩
            · exact hA.out t b (by omega) hb
          case measure => simp [intOf]; omega
        · have hbad : textOk s = false := by
            unfold textOk
            rw [Bool.and_eq_false_iff]
            right
            rw [List.all_eq_false]
            exact ⟨x, List.mem_of_getElem? HXL.out, by unfold isDig; simp; omega⟩
          have HBad := hide hbad
          have hd' : (x.toNat : Int) < 48 ∨ (57 : Int) < x.toNat := by omega
          clear hx hbad hd
          rcases hd' with hd' | hd'
          all_goals
            go_wp2_with fail
            rw [← HQ.out, HBad.out]
            exact ⟨rfl, rfl⟩
      · have hgood : textOk s = true := by
          unfold textOk
          rw [decide_eq_true HL.out, Bool.true_and, List.all_eq_true]
          intro b hb
          obtain ⟨t, ht⟩ := List.getElem?_of_mem hb
          have : t < s.size := by
            rcases Nat.lt_or_ge t s.size with h | h
            · exact h
            · rw [List.getElem?_eq_none (by rw [← Lib.size_eq]; exact h)] at ht; cases ht
          exact hA.out t b (by omega) ht
        have HGood := hide hgood
        clear hgood
        go_wp2_with fail
        rw [← HQ.out, HGood.out]
        exact ⟨rfl, rfl⟩
  · have hbad : textOk s = false := by unfold textOk; rw [decide_eq_false hl]; rfl
    have HBad := hide hbad
    have hl' : (s.size : Int) ≤ 0 ∨ (16 : Int) ≤ s.size := by omega
    clear hbad hl
    rcases hl' with hl' | hl'
    all_goals
      go_enter Tryf.func19, Tryf.ntmps19
      go_wp2_with fail
      rw [← HQ.out, HBad.out]
      exact ⟨rfl, rfl⟩
end Go.Proofs.Qxb6003907aFmt
