/-
  The plain law: what ToLower, CutPrefix and Trim say together is what the byte model says.
-/
import Derived.Test.Qxb6601037aDoorN2
import Derived.Shelf.Strings.CaseAny
import Derived.Lib.TrimUEq
import Derived.Lib.SlTrimSet
namespace Go.Proofs.Qxb6601037aDoor
open Go.Lib
set_option maxRecDepth 100000
def DEC : List UInt8 := [48, 49, 50, 51, 52, 53, 54, 55, 56, 57]
def HEX : List UInt8 := [48, 49, 50, 51, 52, 53, 54, 55, 56, 57, 97, 98, 99, 100, 101, 102]
theorem trimS_nil (l cs : List UInt8) : (trimS l cs).isEmpty = l.all (cs.contains ·) := by
  have h1 : ∀ (p : UInt8 → Bool) (m : List UInt8), m.dropWhile p = [] ↔ m.all p = true := by
    intro p m
    induction m with
    | nil => simp
    | cons a t ih =>
      by_cases ha : p a = true
      · simp [ha, ih]
      · simp [ha]
  have h2 : trimS l cs = [] ↔ l.all (cs.contains ·) = true := by
    unfold trimS trimLeftS
    rw [h1]
    constructor
    · intro h
      by_cases e : l.reverse.dropWhile (cs.contains ·) = []
      · have := (h1 _ _).1 e
        simpa using this
      · exfalso
        have hm : (l.reverse.dropWhile (cs.contains ·)).head e ∈ trimRightS l cs := by
          unfold trimRightS
          rw [List.mem_reverse]
          exact List.head_mem e
        have := List.all_eq_true.1 h _ hm
        have h3 := List.head_dropWhile_not (cs.contains ·) e
        rw [h3] at this
        cases this
    · intro h
      have e : trimRightS l cs = [] := by
        unfold trimRightS
        rw [(h1 _ _).2 (by simpa using h)]
        rfl
      rw [e]; rfl
  cases hl : l.all (cs.contains ·) with
  | true => rw [h2.2 hl]; rfl
  | false =>
    cases ht : trimS l cs with
    | nil => rw [h2.1 ht] at hl; cases hl
    | cons a t => rfl
def rowOk (x : CaseRow) : Bool :=
  decide (x.2.1 < 128) || (decide (128 ≤ x.1) && (decide (x.delta 1 > 1114111) || decide (128 ≤ (x.1 : Int) + x.delta 1) || (decide (x.1 = x.2.1) && (decide ((x.1 : Int) + x.delta 1 = 105) || decide ((x.1 : Int) + x.delta 1 = 107)))))
set_option maxRecDepth 1000000 in
theorem rowsOk : caseT.all rowOk = true := by decide
theorem row_ok (i : Nat) (hi : i < caseA.size) : rowOk (caseA.getD i (0, 0, 0, 0, 0)) = true := by
  have hm : caseA.getD i (0, 0, 0, 0, 0) ∈ caseT := by
    unfold caseA at hi ⊢
    simp only [List.size_toArray] at hi
    simp [Array.getD, hi]
  exact List.all_eq_true.1 rowsOk _ hm
theorem convert_ok (x : CaseRow) (hx : rowOk x = true) (r : Int) (h128 : 128 ≤ r) (hlo : (x.1 : Int) ≤ r) (hhi : r ≤ (x.2.1 : Int)) : 128 ≤ convertR 1 r x ∨ convertR 1 r x = 105 ∨ convertR 1 r x = 107 := by
  simp only [rowOk, Bool.and_eq_true, decide_eq_true_eq, Bool.or_eq_true] at hx
  unfold convertR
  split <;> omega
theorem lower_high (r : Nat) (h : 128 ≤ r) : 128 ≤ toLowerU r ∨ toLowerU r = 105 ∨ toLowerU r = 107 := by
  have hr : ¬ ((r : Int) ≤ 127) := by omega
  unfold toLowerU
  rw [if_neg hr]
  unfold toR lookupGo
  cases hi : lookupIdx caseA r (caseA.size + 1) 0 caseA.size with
  | none => left; show (128 : Int) ≤ r; omega
  | some i =>
    obtain ⟨hil, hlo, hhi⟩ := lookupIdx_some caseA r _ _ _ i hi
    exact convert_ok _ (row_ok i hil) r (by omega) hlo hhi
theorem decode_high (b : UInt8) (t : List UInt8) (h : 128 ≤ b.toNat) : 128 ≤ (decodeL (b :: t)).1 := by
  rw [decodeL_N]
  show 128 ≤ (decodeN (b :: t).length b.toNat _ _ _).1
  unfold decodeN
  repeat' split
  all_goals (dsimp only; omega)
/-- The first byte of what a rune beyond ASCII is lowered to is no digit and no 'x'. -/
theorem enc_head (v : Int) (h : 128 ≤ v ∨ v = 105 ∨ v = 107) : ∃ y ys, encodeRune v = y :: ys ∧ y ≠ 48 ∧ y ≠ 120 ∧ HEX.contains y = false := by
  have key : ∀ n : Nat, n < 256 → (192 ≤ n ∨ n = 105 ∨ n = 107) → (n.toUInt8 ≠ 48 ∧ n.toUInt8 ≠ 120 ∧ HEX.contains n.toUInt8 = false) := by decide
  have big : ∀ (z : Int) (zs : List Int), encodeRuneZ v = z :: zs → 0 ≤ z → z < 256 → (192 ≤ z ∨ z = 105 ∨ z = 107) → ∃ y ys, encodeRune v = y :: ys ∧ y ≠ 48 ∧ y ≠ 120 ∧ HEX.contains y = false := by
    intro z zs e h0 h1 h2
    refine ⟨z.toNat.toUInt8, zs.map fun x => x.toNat.toUInt8, by unfold encodeRune; rw [e]; rfl, ?_⟩
    exact key z.toNat (by omega) (by omega)
  rcases h with h | h | h
  · by_cases c1 : v ≤ 2047
    · exact big _ _ (encodeRuneZ_two h c1) (by omega) (by omega) (by omega)
    · by_cases c2 : (2048 ≤ v ∧ v < 55296) ∨ (57343 < v ∧ v ≤ 65535)
      · exact big _ _ (encodeRuneZ_three c2) (by omega) (by omega) (by omega)
      · by_cases c3 : 65536 ≤ v ∧ v ≤ 1114111
        · exact big _ _ (encodeRuneZ_four c3.1 c3.2) (by omega) (by omega) (by omega)
        · exact big _ _ (encodeRuneZ_bad (by omega)) (by omega) (by omega) (by omega)
  · subst h; exact big _ _ (encodeRuneZ_one (by omega) (by omega)) (by omega) (by omega) (by omega)
  · subst h; exact big _ _ (encodeRuneZ_one (by omega) (by omega)) (by omega) (by omega) (by omega)
theorem low_ascii (b : UInt8) (t : List UInt8) (h : b.toNat < 128) : toLowerD (b :: t) = lowerB b :: toLowerD t := by
  unfold toLowerD
  rw [mapD_step toLowerU (b :: t) (by simp), decodeL_ascii b t h]
  dsimp only
  rw [if_pos (toLowerU_range b.toNat (by omega)).1, lower_byte ⟨b.toNat, h⟩, List.drop_succ_cons, List.drop_zero]
  simp
theorem low_high (b : UInt8) (t : List UInt8) (h : 128 ≤ b.toNat) : ∃ y ys, toLowerD (b :: t) = y :: ys ∧ y ≠ 48 ∧ y ≠ 120 ∧ HEX.contains y = false := by
  unfold toLowerD
  rw [mapD_step toLowerU (b :: t) (by simp)]
  have hh := lower_high _ (decode_high b t h)
  rw [if_pos (by omega)]
  obtain ⟨y, ys, e, h1, h2, h3⟩ := enc_head _ hh
  rw [e]
  exact ⟨y, _, rfl, h1, h2, h3⟩
theorem low_nil : toLowerD [] = [] := rfl
theorem low_48 : ∀ n : Nat, n < 128 → ((lowerB n.toUInt8 == 48) = (n == 48)) := by decide
theorem low_120 : ∀ n : Nat, n < 128 → ((lowerB n.toUInt8 == 120) = (n == 120 || n == 88)) := by decide
theorem low_hex : ∀ n : Nat, n < 128 → (HEX.contains (lowerB n.toUInt8) = hexB n) := by decide
theorem dec_all : ∀ n : Nat, n < 256 → (DEC.contains n.toUInt8 = decB n) := by decide
theorem hexB_high (n : Nat) (h : 128 ≤ n) : hexB n = false := by unfold hexB; simp; omega
theorem back (b : UInt8) : b.toNat.toUInt8 = b := by simp
theorem hex_law (l : List UInt8) : (toLowerD l).all (HEX.contains ·) = l.all (fun b => hexB b.toNat) := by
  induction l with
  | nil => rfl
  | cons b t ih =>
    by_cases h : b.toNat < 128
    · rw [low_ascii b t h, List.all_cons, List.all_cons, ih]
      have := low_hex b.toNat h
      rw [back] at this
      rw [this]
    · obtain ⟨y, ys, e, _, _, h3⟩ := low_high b t (by omega)
      rw [e, List.all_cons, List.all_cons, h3, hexB_high _ (by omega)]
      rfl
theorem pre_law (l : List UInt8) : hasPrefix (toLowerD l) [48, 120] = is0x l ∧ (is0x l = true → (toLowerD l).drop 2 = toLowerD (l.drop 2)) := by
  match l with
  | [] => exact ⟨rfl, fun h => by cases h⟩
  | [b] =>
    refine ⟨?_, fun h => by cases h⟩
    by_cases h : b.toNat < 128
    · rw [low_ascii b [] h, low_nil]
      simp [hasPrefix, is0x, List.isPrefixOf]
    · obtain ⟨y, ys, e, h1, _, _⟩ := low_high b [] (by omega)
      rw [e]
      have : ((48 : UInt8) == y) = false := by simpa using fun h => h1 h.symm
      simp [hasPrefix, is0x, List.isPrefixOf, this]
  | b :: c :: t =>
    by_cases h : b.toNat < 128
    · have e48 := low_48 b.toNat h
      rw [back] at e48
      by_cases hc : c.toNat < 128
      · have e120 := low_120 c.toNat hc
        rw [back] at e120
        rw [low_ascii b _ h, low_ascii c t hc]
        refine ⟨?_, fun _ => rfl⟩
        show ((48 : UInt8) == lowerB b && ((120 : UInt8) == lowerB c && true)) = _
        rw [Bool.beq_comm, e48, Bool.beq_comm (a := (120 : UInt8)), e120]
        simp [is0x]
      · obtain ⟨y, ys, e, _, h2, _⟩ := low_high c t (by omega)
        have hx : is0x (b :: c :: t) = false := by
          simp only [is0x]
          have h1 : (c.toNat == 120) = false := by simp; omega
          have h2 : (c.toNat == 88) = false := by simp; omega
          rw [h1, h2]; simp
        rw [low_ascii b _ h, e, hx]
        refine ⟨?_, fun h => by cases h⟩
        have : ((120 : UInt8) == y) = false := by simpa using fun h => h2 h.symm
        simp [hasPrefix, List.isPrefixOf, this]
    · obtain ⟨y, ys, e, h1, _, _⟩ := low_high b (c :: t) (by omega)
      have hx : is0x (b :: c :: t) = false := by
        simp only [is0x]
        have h1 : (b.toNat == 48) = false := by simp; omega
        rw [h1]; simp
      rw [e, hx]
      refine ⟨?_, fun h => by cases h⟩
      have : ((48 : UInt8) == y) = false := by simpa using fun h => h1 h.symm
      simp [hasPrefix, List.isPrefixOf, this]
theorem number_law (l : List UInt8) : (if hasPrefix (toLowerD l) [48, 120] then (trimS ((toLowerD l).drop 2) HEX).isEmpty else (trimS l DEC).isEmpty) = model l := by
  obtain ⟨h1, h2⟩ := pre_law l
  rw [h1, trimS_nil, trimS_nil]
  unfold model
  by_cases h : is0x l = true
  · rw [if_pos h, if_pos h, h2 h, hex_law]
  · rw [if_neg h, if_neg h]
    have e : (fun b : UInt8 => DEC.contains b) = fun b => decB b.toNat := by
      funext b
      have := dec_all b.toNat b.toNat_lt
      rw [back] at this
      exact this
    rw [e]
end Go.Proofs.Qxb6601037aDoor
