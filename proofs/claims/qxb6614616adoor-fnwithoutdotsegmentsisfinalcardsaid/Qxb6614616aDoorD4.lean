/-
  (*dotRemoval).read, walked.
-/
import Derived.Test.Qxb6614616aDoorD3
namespace Go.Proofs.Qxb6614616aDoor
open Go.RowKit
set_option linter.unusedSimpArgs false
theorem idx_seg (l : List UInt8) : Lib.indexByte l 47 = if aft l = [] then -1 else ((seg l).length : Int) := by
  induction l with
  | nil => rfl
  | cons b t ih =>
    unfold Lib.indexByte
    by_cases hb : b = 47
    · subst hb
      have e1 : aft (47 :: t) = 47 :: t := by simp [aft, List.dropWhile_cons]
      have e2 : seg (47 :: t) = [] := by simp [seg, List.takeWhile_cons]
      rw [e1, e2]
      simp
    · have hb' : (b == 47) = false := by simpa using hb
      have e1 : aft (b :: t) = aft t := by simp [aft, List.dropWhile_cons, hb]
      have e2 : seg (b :: t) = b :: seg t := by simp [seg, List.takeWhile_cons, hb]
      rw [hb', e1, e2, ih]
      by_cases ha : aft t = []
      · simp [ha]
      · simp only [if_neg ha, List.length_cons]
        have : ¬ (((seg t).length : Int) == -1) = true := by
          intro h
          rw [beq_iff_eq] at h
          omega
        simp only [Bool.false_eq_true, if_false, this]
        omega
theorem index27 (s : ByteArray) (w : World) (l : List UInt8) (hl : L s = l) (z : Int) (hz : (if aft l = [] then (-1 : Int) else ((seg l).length : Int)) = z) : Calls Tryd.prog 27 #[.string s, .int .u8 47] w fun e w' => e = .returned (.int .i64 z) ∧ w' = w := by
  have h := Tryd.strings_IndexByte s 47 w
  have e : Lib.indexByte s.data.toList ((47 : Int).toNat.toUInt8) = z := by
    rw [← hz, ← hl]
    exact idx_seg _
  rw [e] at h
  exact h
theorem index35 (s : ByteArray) (w : World) (l : List UInt8) (hl : L s = l) (z : Int) (hz : (if aft l = [] then (-1 : Int) else ((seg l).length : Int)) = z) : Calls Tryd.prog 35 #[.string s, .string ⟨#[47]⟩] w fun e w' => e = .returned (.int .i64 z) ∧ w' = w := by
  have h := Tryd.strings_Index_one s 47 w
  have e : Lib.indexByte s.data.toList 47 = z := by
    rw [← hz, ← hl]
    exact idx_seg _
  rw [e] at h
  exact h
theorem prefix26 (s : ByteArray) (w : World) : Calls Tryd.prog 26 #[.string s, .string ⟨#[47]⟩] w fun e w' => e = .returned (.bool (opens (L s))) ∧ w' = w := by
  have h := Tryd.strings_HasPrefix s ⟨#[47]⟩ w
  have e : Lib.hasPrefix s.data.toList (ByteArray.mk #[47]).data.toList = opens (L s) := by
    show List.isPrefixOf [47] (L s) = _
    generalize L s = l
    cases l with
    | nil => rfl
    | cons b t =>
      show ((47 : UInt8) == b && true) = (b == 47)
      rw [Bool.and_true, Bool.beq_comm]
  rw [e] at h
  exact h
def meas (u v : Value) : Nat := match u, v with
  | .string b, .bool true => b.size - 1
  | .string b, _ => b.size
  | _, _ => 0
structure At (D : Nat) (w : World) (RES : List (List UInt8)) (N : Nat) (s : ByteArray) (sl : Bool) (wr : World) (body : List UInt8) (ts : List (List UInt8)) : Prop where
  rem : Rem D ts wr
  below : Below D w wr
  txt : L s = (if sl then [47] else []) ++ body
  res : ∃ n, body.length < n ∧ readP n body sl ts = RES
  room : (flat ts).length + s.size ≤ N
theorem meas_eq (b : ByteArray) (sl : Bool) (body : List UInt8) (h : L b = (if sl then [47] else []) ++ body) : meas (.string b) (.bool sl) = body.length := by
  have := congrArg List.length h
  rw [L_len] at this
  cases sl
  · show b.size = _
    simpa using this
  · show b.size - 1 = _
    rw [this]
    simp
theorem next_at {D : Nat} {w : World} {RES : List (List UInt8)} {N : Nat} {s : ByteArray} {sl : Bool} {wr : World} {body : List UInt8} {ts : List (List UInt8)} (h : At D w RES N s sl wr body ts) (r : List UInt8) (ha : aft body = 47 :: r)
    (ts' : List (List UInt8)) (nx : Bool) (hst : stepP (seg body) sl false ts = (ts', nx)) (wr' : World) (hR : Rem D ts' wr') (hB : Below D wr wr') (s' : ByteArray) (hL : L s' = (if nx then [47] else []) ++ r) : At D w RES N s' nx wr' r ts' := by
  obtain ⟨n, hn, hres⟩ := h.res
  have hsa := congrArg List.length (seg_aft body)
  rw [ha, List.length_append, List.length_cons] at hsa
  have hlen := step_len (seg body) sl false ts
  rw [hst] at hlen
  have hsz := congrArg List.length h.txt
  rw [L_len, List.length_append] at hsz
  have hsz' := congrArg List.length hL
  rw [L_len, List.length_append] at hsz'
  have hroom := h.room
  refine ⟨hR, h.below.trans hB, hL, ?_, ?_⟩
  · cases n with
    | zero => omega
    | succ n =>
      rw [readP, ha] at hres
      dsimp only at hres
      rw [hst] at hres
      exact ⟨n, by omega, hres⟩
  · have e1 : (if sl then [47] else ([] : List UInt8)).length = if sl then 1 else 0 := by cases sl <;> rfl
    have e2 : (if nx then [47] else ([] : List UInt8)).length ≤ 1 := by cases nx <;> simp
    dsimp only at hlen
    omega
theorem last_at {D : Nat} {w : World} {RES : List (List UInt8)} {N : Nat} {s : ByteArray} {sl : Bool} {wr : World} {body : List UInt8} {ts : List (List UInt8)} (h : At D w RES N s sl wr body ts) (ha : aft body = [])
    (ts' : List (List UInt8)) (nx : Bool) (hst : stepP (seg body) sl true ts = (ts', nx)) : ts' = RES := by
  obtain ⟨n, hn, hres⟩ := h.res
  cases n with
  | zero => omega
  | succ n =>
    rw [readP, ha] at hres
    dsimp only at hres
    rw [hst] at hres
    exact hres
theorem push_is (D : Nat) (x : ByteArray) (l : List UInt8) (hx : L x = l) (ts : List (List UInt8)) (w : World) (h : Rem D ts w) (hb : (flat ts).length + l.length ≤ 1048576) : Calls Tryd.prog 30 #[.pointer (some ⟨D, 0, none⟩), .string x] w fun e w' => e = .returned (.tuple #[]) ∧ Rem D (l :: ts) w' ∧ Below D w w' := by
  have := push30 D l ts w h hb
  rw [← hx, ofL_L, hx] at this
  exact this
theorem dot28' (n : Nat) (slash last a b c : Bool) (hn : (n = 0 ∨ n = 1 ∨ n = 2) ∧ (slash && decide (n = 2)) = a ∧ (slash && (decide (n = 0) || last)) = b ∧ (slash || decide (n = 0)) = c) (lb : Bool) (hlb : lb = last) (w : World) : Calls Tryd.prog 28 #[.int .i64 n, .bool slash, .bool lb] w fun e w' => e = .returned (.tuple #[.bool a, .bool b, .bool c]) ∧ w' = w := by
  subst hlb
  have := dot28 n slash lb w (by omega)
  obtain ⟨_, rfl, rfl, rfl⟩ := hn
  have e0 : decide ((n : Int) = 0) = decide (n = 0) := by simp
  have e2 : decide ((n : Int) = 2) = decide (n = 2) := by
    rw [decide_eq_decide]; omega
  rw [e0, e2] at this
  exact this
set_option maxHeartbeats 40000000 in
set_option maxRecDepth 100000 in
theorem read20 (D : Nat) (s : ByteArray) (w : World) (h : Rem D [] w) (hs : (s.size : Int) ≤ 1048576) (RES : List (List UInt8)) (hres : readP ((L s).length + 1) (bodyOf (L s)) (opens (L s)) [] = RES) :
    Calls Tryd.prog 20 #[.pointer (some ⟨D, 0, none⟩), .string s] w fun e w' => e = .returned (.tuple #[]) ∧ Rem D RES w' ∧ Below D w w' := by
  generalize hQ : (fun (e : Ending) (w' : World) => e = .returned (.tuple #[]) ∧ Rem D RES w' ∧ Below D w w') = Q
  have HQ := hide hQ
  have HP := hide (prefix26 s w)
  have hA0 : At D w RES s.size s (opens (L s)) w (bodyOf (L s)) [] := by
    refine ⟨h, Below.refl _ _, ?_, ⟨_, ?_, hres⟩, by simp [flat]⟩
    · generalize L s = l
      unfold bodyOf
      cases l with
      | nil => rfl
      | cons b t =>
        by_cases ho : opens (b :: t) = true
        · have hb : b = 47 := by simpa [opens] using ho
          rw [if_pos ho, if_pos ho, hb]; rfl
        · rw [if_neg ho, if_neg ho]; rfl
    · have := body_len (L s); omega
  have HA := hide hA0
  obtain ⟨N, hN⟩ : ∃ N, s.size = N := ⟨_, rfl⟩
  have hNI : (N : Int) ≤ 1048576 := by omega
  rw [hN] at HA
  generalize opens (L s) = sl0 at HA HP hres
  generalize bodyOf (L s) = body0 at HA hres
  clear h hres hA0 hQ hs hN
  go_enter Tryd.func20, Tryd.ntmps20
  go_wp2_with fail
  refine (unhide HP).mono ?_
  rintro e w0 ⟨rfl, h0⟩
  obtain rfl : w = w0 := h0.symm
  clear h0 HP
  go_wp2_with fail
  go_loopw [1, 4] (fun ss sv wr => ∃ (inb : ByteArray) (sl : Bool) (body : List UInt8) (ts : List (List UInt8)), ss = .string inb ∧ sv = .bool sl ∧ Hid (At D w RES N inb sl wr body ts)) (fun ss sv _ => meas ss sv)
  case atStart => exact ⟨s, sl0, body0, [], rfl, rfl, HA⟩
  case round =>
    obtain ⟨inb, sl, body, ts, rfl, rfl, HAt⟩ := hrel
    clear HA
    have hAt := HAt.out
    have hsz : inb.size = (if sl then 1 else 0) + body.length := by
      rw [← L_len, hAt.txt, List.length_append]
      cases sl <;> rfl
    have hroom := hAt.room
    have hinI : (inb.size : Int) ≤ 1048576 := by omega
    have hsa := seg_aft body
    obtain ⟨t, ht⟩ : ∃ t, seg body = t := ⟨_, rfl⟩
    obtain ⟨k, hk⟩ : ∃ k, t.length = k := ⟨_, rfl⟩
    have htail : (flat ts.tail).length ≤ (flat ts).length := by
      cases ts with
      | nil => exact Nat.le_refl _
      | cons x ks => simp [flat]
    have hone : (ByteArray.mk #[47]) = ofL [47] := rfl
    cases haft : aft body with
    | nil =>
      rw [ht, haft, List.append_nil] at hsa
      have hlen : body.length = k := by rw [← hsa, hk]
      cases sl
      · have HI := hide (fun W => index27 inb W body (by rw [hAt.txt]; rfl) (-1) (by rw [haft]; rfl))
        obtain ⟨g, hg⟩ : ∃ g, inb = g := ⟨_, rfl⟩
        have HG : Hid (L g = t) := hide (by rw [← hg, hAt.txt, hsa]; rfl)
        subst hg
        obtain ⟨f, hf⟩ : ∃ f, inb = f := ⟨_, rfl⟩
        have HF : Hid (L f = (if false then [47] else []) ++ t) := hide (by rw [← hf, hAt.txt, hsa])
        subst hf
        obtain ⟨b0, hb0⟩ : ∃ b0, inb.toList.isEmpty = b0 := ⟨_, rfl⟩
        obtain ⟨b1, hb1⟩ : ∃ b1, (inb.toList == [46]) = b1 := ⟨_, rfl⟩
        obtain ⟨b2, hb2⟩ : ∃ b2, (inb.toList == [46, 46]) = b2 := ⟨_, rfl⟩
        rw [tl_L, HG.out] at hb0 hb1 hb2
        have hgs : inb.size = k := by rw [← L_len, HG.out, hk]
        by_cases h0 : t = []
        · have T0 : inb.toList.isEmpty = true := by rw [tl_L, HG.out, h0]; rfl
          have m0 : (inb.toList == []) = true := by rw [tl_L, HG.out, h0]; rfl
          have hst : stepP (seg body) false true ts = (ts, true) := by rw [ht, h0]; rfl
          have HD := hide (fun lb hlb W => dot28' inb.size false true false false true (by rw [hgs, ← hk, h0]; decide) lb hlb W)
          have HST := hide hst
          have HAF := hide haft
          clear hst haft hAt ht hk hsa hroom htail hone hgs hb0 hb1 hb2 hsz
          go_wp2_with fail
          refine (unhide HI _).mono ?_
          rintro e w1 ⟨rfl, h00⟩
          obtain rfl : wr = w1 := h00.symm
          clear h00 HI
          go_wp2_with fail
          refine (unhide HD _ (by first | (simp; done) | (simp; omega) | rfl) _).mono ?_
          rintro e w1 ⟨rfl, h00⟩
          obtain rfl : wr = w1 := h00.symm
          clear h00 HD
          go_wp2_with fail
          try go_end0
          rw [← HQ.out]
          have hfin := last_at HAt.out HAF.out _ _ HST.out
          refine ⟨rfl, ?_, HAt.out.below.trans (Below.refl _ _)⟩
          rw [← hfin]
          exact HAt.out.rem
        · by_cases h1 : t = [46]
          · have T0 : inb.toList.isEmpty = false := by rw [tl_L, HG.out, h1]; rfl
            have n2 : inb.toList = [46] := by rw [tl_L, HG.out]; exact h1
            have hst : stepP (seg body) false true ts = (ts, false) := by rw [ht, h1]; rfl
            have HD := hide (fun lb hlb W => dot28' inb.size false true false false false (by rw [hgs, ← hk, h1]; decide) lb hlb W)
            have HST := hide hst
            have HAF := hide haft
            clear hst haft hAt ht hk hsa hroom htail hone hgs hb0 hb1 hb2 hsz
            go_wp2_with fail
            refine (unhide HI _).mono ?_
            rintro e w1 ⟨rfl, h00⟩
            obtain rfl : wr = w1 := h00.symm
            clear h00 HI
            go_wp2_with fail
            refine (unhide HD _ (by first | (simp; done) | (simp; omega) | rfl) _).mono ?_
            rintro e w1 ⟨rfl, h00⟩
            obtain rfl : wr = w1 := h00.symm
            clear h00 HD
            go_wp2_with fail
            try go_end0
            rw [← HQ.out]
            have hfin := last_at HAt.out HAF.out _ _ HST.out
            refine ⟨rfl, ?_, HAt.out.below.trans (Below.refl _ _)⟩
            rw [← hfin]
            exact HAt.out.rem
          · by_cases h2 : t = [46, 46]
            · have T0 : inb.toList.isEmpty = false := by rw [tl_L, HG.out, h2]; rfl
              have n2 : ¬ (inb.toList = [46]) := by rw [tl_L, HG.out]; exact h1
              have n3 : inb.toList = [46, 46] := by rw [tl_L, HG.out]; exact h2
              have m2 : (inb.toList == [46]) = false := by simpa using n2
              have hst : stepP (seg body) false true ts = (ts, false) := by rw [ht, h2]; rfl
              have HD := hide (fun lb hlb W => dot28' inb.size false true false false false (by rw [hgs, ← hk, h2]; decide) lb hlb W)
              have HST := hide hst
              have HAF := hide haft
              clear hst haft hAt ht hk hsa hroom htail hone hgs hb0 hb1 hb2 hsz
              go_wp2_with fail
              refine (unhide HI _).mono ?_
              rintro e w1 ⟨rfl, h00⟩
              obtain rfl : wr = w1 := h00.symm
              clear h00 HI
              go_wp2_with fail
              refine (unhide HD _ (by first | (simp; done) | (simp; omega) | rfl) _).mono ?_
              rintro e w1 ⟨rfl, h00⟩
              obtain rfl : wr = w1 := h00.symm
              clear h00 HD
              go_wp2_with fail
              try go_end0
              rw [← HQ.out]
              have hfin := last_at HAt.out HAF.out _ _ HST.out
              refine ⟨rfl, ?_, HAt.out.below.trans (Below.refl _ _)⟩
              rw [← hfin]
              exact HAt.out.rem
            · have T0 : inb.toList.isEmpty = false := by rw [tl_L, HG.out]; cases t with | nil => exact absurd rfl h0 | cons _ _ => rfl
              have n2 : ¬ (inb.toList = [46]) := by rw [tl_L, HG.out]; exact h1
              have n3 : ¬ (inb.toList = [46, 46]) := by rw [tl_L, HG.out]; exact h2
              have m2 : (inb.toList == [46]) = false := by simpa using n2
              have m3 : (inb.toList == [46, 46]) = false := by simpa using n3
              have hdt : isDot t = false := by unfold isDot; simp [h1, h2]
              have hst : stepP (seg body) false true ts = (((if false then [47] else []) ++ t) :: ts, true) := by rw [ht]; unfold stepP; rw [if_neg (by simp [h0, hdt])]
              have HPU := hide (push_is D inb _ HF.out ts wr hAt.rem (by have := L_len inb; rw [HF.out] at this; omega))
              have HST := hide hst
              have HAF := hide haft
              clear hst haft hAt ht hk hsa hroom htail hone hgs hb0 hb1 hb2 hsz
              go_wp2_with fail
              refine (unhide HI _).mono ?_
              rintro e w1 ⟨rfl, h00⟩
              obtain rfl : wr = w1 := h00.symm
              clear h00 HI
              go_wp2_with fail
              refine (unhide HPU).mono ?_
              rintro e w2 ⟨rfl, hR2, hB2⟩
              have HR2 := hide hR2
              have HB2 := hide hB2
              clear hR2 hB2 HPU
              go_wp2_with fail
              try go_end0
              rw [← HQ.out]
              have hfin := last_at HAt.out HAF.out _ _ HST.out
              refine ⟨rfl, ?_, HAt.out.below.trans HB2.out⟩
              rw [← hfin]
              exact HR2.out
      · have htxt : L inb = 47 :: body := by rw [hAt.txt]; rfl
        have hkI : (1 : Int) ≤ inb.size := by rw [hsz]; simp; omega
        obtain ⟨g, hg⟩ : ∃ g, inb.extract 1 inb.size = g := ⟨_, rfl⟩
        have hgl : L g = body := by
          rw [← hg, L_ext, htxt, List.drop_succ_cons, List.drop_zero, List.take_of_length_le (by rw [hsz]; simp)]
        have HI := hide (fun W => index27 g W body hgl (-1) (by rw [haft]; rfl))
        have HG : Hid (L g = t) := hide (by rw [hgl, hsa])
        have h47 : inb.extract 0 1 = ⟨#[47]⟩ := L_inj (by rw [L_ext, htxt]; rfl)
        obtain ⟨f, hf⟩ : ∃ f, inb = f := ⟨_, rfl⟩
        have HF : Hid (L f = (if true then [47] else []) ++ t) := hide (by rw [← hf, hAt.txt, hsa])
        subst hf
        clear hgl htxt
        obtain ⟨b0, hb0⟩ : ∃ b0, g.toList.isEmpty = b0 := ⟨_, rfl⟩
        obtain ⟨b1, hb1⟩ : ∃ b1, (g.toList == [46]) = b1 := ⟨_, rfl⟩
        obtain ⟨b2, hb2⟩ : ∃ b2, (g.toList == [46, 46]) = b2 := ⟨_, rfl⟩
        rw [tl_L, HG.out] at hb0 hb1 hb2
        have hgs : g.size = k := by rw [← L_len, HG.out, hk]
        by_cases h0 : t = []
        · have T0 : g.toList.isEmpty = true := by rw [tl_L, HG.out, h0]; rfl
          have m0 : (g.toList == []) = true := by rw [tl_L, HG.out, h0]; rfl
          have hst : stepP (seg body) true true ts = ([47] :: ts, true) := by rw [ht, h0]; rfl
          have HD := hide (fun lb hlb W => dot28' g.size true true false true true (by rw [hgs, ← hk, h0]; decide) lb hlb W)
          have HPU := hide (fun W (h : Rem D ts W) => push_is D ⟨#[47]⟩ [47] rfl ts W h (by simp; omega))
          have HST := hide hst
          have HAF := hide haft
          clear hst haft hAt ht hk hsa hroom htail hone hgs hb0 hb1 hb2 hsz
          go_wp2_with fail
          refine (unhide HI _).mono ?_
          rintro e w1 ⟨rfl, h00⟩
          obtain rfl : wr = w1 := h00.symm
          clear h00 HI
          go_wp2_with fail
          refine (unhide HD _ (by first | (simp; done) | (simp; omega) | rfl) _).mono ?_
          rintro e w1 ⟨rfl, h00⟩
          obtain rfl : wr = w1 := h00.symm
          clear h00 HD
          go_wp2_with fail
          refine (unhide HPU _ HAt.out.rem).mono ?_
          rintro e w3 ⟨rfl, hR3, hB3⟩
          have HR3 := hide hR3
          have HB3 := hide hB3
          clear hR3 hB3 HPU
          go_wp2_with fail
          try go_end0
          rw [← HQ.out]
          have hfin := last_at HAt.out HAF.out _ _ HST.out
          refine ⟨rfl, ?_, HAt.out.below.trans HB3.out⟩
          rw [← hfin]
          exact HR3.out
        · by_cases h1 : t = [46]
          · have T0 : g.toList.isEmpty = false := by rw [tl_L, HG.out, h1]; rfl
            have n2 : g.toList = [46] := by rw [tl_L, HG.out]; exact h1
            have hst : stepP (seg body) true true ts = ([47] :: ts, true) := by rw [ht, h1]; rfl
            have HD := hide (fun lb hlb W => dot28' g.size true true false true true (by rw [hgs, ← hk, h1]; decide) lb hlb W)
            have HPU := hide (fun W (h : Rem D ts W) => push_is D ⟨#[47]⟩ [47] rfl ts W h (by simp; omega))
            have HST := hide hst
            have HAF := hide haft
            clear hst haft hAt ht hk hsa hroom htail hone hgs hb0 hb1 hb2 hsz
            go_wp2_with fail
            refine (unhide HI _).mono ?_
            rintro e w1 ⟨rfl, h00⟩
            obtain rfl : wr = w1 := h00.symm
            clear h00 HI
            go_wp2_with fail
            refine (unhide HD _ (by first | (simp; done) | (simp; omega) | rfl) _).mono ?_
            rintro e w1 ⟨rfl, h00⟩
            obtain rfl : wr = w1 := h00.symm
            clear h00 HD
            go_wp2_with fail
            refine (unhide HPU _ HAt.out.rem).mono ?_
            rintro e w3 ⟨rfl, hR3, hB3⟩
            have HR3 := hide hR3
            have HB3 := hide hB3
            clear hR3 hB3 HPU
            go_wp2_with fail
            try go_end0
            rw [← HQ.out]
            have hfin := last_at HAt.out HAF.out _ _ HST.out
            refine ⟨rfl, ?_, HAt.out.below.trans HB3.out⟩
            rw [← hfin]
            exact HR3.out
          · by_cases h2 : t = [46, 46]
            · have T0 : g.toList.isEmpty = false := by rw [tl_L, HG.out, h2]; rfl
              have n2 : ¬ (g.toList = [46]) := by rw [tl_L, HG.out]; exact h1
              have n3 : g.toList = [46, 46] := by rw [tl_L, HG.out]; exact h2
              have m2 : (g.toList == [46]) = false := by simpa using n2
              have hst : stepP (seg body) true true ts = ([47] :: ts.tail, true) := by rw [ht, h2]; rfl
              have HD := hide (fun lb hlb W => dot28' g.size true true true true true (by rw [hgs, ← hk, h2]; decide) lb hlb W)
              have HPO := hide (pop29 D ts wr hAt.rem)
              have HPU := hide (fun W (h : Rem D ts.tail W) => push_is D ⟨#[47]⟩ [47] rfl ts.tail W h (by simp; omega))
              have HST := hide hst
              have HAF := hide haft
              clear hst haft hAt ht hk hsa hroom htail hone hgs hb0 hb1 hb2 hsz
              go_wp2_with fail
              refine (unhide HI _).mono ?_
              rintro e w1 ⟨rfl, h00⟩
              obtain rfl : wr = w1 := h00.symm
              clear h00 HI
              go_wp2_with fail
              refine (unhide HD _ (by first | (simp; done) | (simp; omega) | rfl) _).mono ?_
              rintro e w1 ⟨rfl, h00⟩
              obtain rfl : wr = w1 := h00.symm
              clear h00 HD
              go_wp2_with fail
              refine (unhide HPO).mono ?_
              rintro e w2 ⟨rfl, hR2, hB2⟩
              have HR2 := hide hR2
              have HB2 := hide hB2
              clear hR2 hB2 HPO
              go_wp2_with fail
              refine (unhide HPU _ HR2.out).mono ?_
              rintro e w3 ⟨rfl, hR3, hB3⟩
              have HR3 := hide hR3
              have HB3 := hide hB3
              clear hR3 hB3 HPU
              go_wp2_with fail
              try go_end0
              rw [← HQ.out]
              have hfin := last_at HAt.out HAF.out _ _ HST.out
              refine ⟨rfl, ?_, HAt.out.below.trans (HB2.out.trans HB3.out)⟩
              rw [← hfin]
              exact HR3.out
            · have T0 : g.toList.isEmpty = false := by rw [tl_L, HG.out]; cases t with | nil => exact absurd rfl h0 | cons _ _ => rfl
              have n2 : ¬ (g.toList = [46]) := by rw [tl_L, HG.out]; exact h1
              have n3 : ¬ (g.toList = [46, 46]) := by rw [tl_L, HG.out]; exact h2
              have m2 : (g.toList == [46]) = false := by simpa using n2
              have m3 : (g.toList == [46, 46]) = false := by simpa using n3
              have hdt : isDot t = false := by unfold isDot; simp [h1, h2]
              have hst : stepP (seg body) true true ts = (((if true then [47] else []) ++ t) :: ts, true) := by rw [ht]; unfold stepP; rw [if_neg (by simp [h0, hdt])]
              have HPU := hide (push_is D inb _ HF.out ts wr hAt.rem (by have := L_len inb; rw [HF.out] at this; omega))
              have HST := hide hst
              have HAF := hide haft
              clear hst haft hAt ht hk hsa hroom htail hone hgs hb0 hb1 hb2 hsz
              go_wp2_with fail
              refine (unhide HI _).mono ?_
              rintro e w1 ⟨rfl, h00⟩
              obtain rfl : wr = w1 := h00.symm
              clear h00 HI
              go_wp2_with fail
              refine (unhide HPU).mono ?_
              rintro e w2 ⟨rfl, hR2, hB2⟩
              have HR2 := hide hR2
              have HB2 := hide hB2
              clear hR2 hB2 HPU
              go_wp2_with fail
              try go_end0
              rw [← HQ.out]
              have hfin := last_at HAt.out HAF.out _ _ HST.out
              refine ⟨rfl, ?_, HAt.out.below.trans HB2.out⟩
              rw [← hfin]
              exact HR2.out
    | cons x r =>
      have hx := aft_head body x r haft
      subst hx
      rw [ht, haft] at hsa
      have hlen : body.length = k + 1 + r.length := by rw [← hsa, List.length_append, List.length_cons, hk]; omega
      have HLT : Hid (r.length < body.length) := hide (by omega)
      cases sl
      · have htxt : L inb = t ++ 47 :: r := by rw [hAt.txt, hsa]; rfl
        have hkI : (k : Int) + 1 ≤ inb.size := by rw [hsz, hlen]; simp; omega
        obtain ⟨g, hg⟩ : ∃ g, inb.extract 0 k = g := ⟨_, rfl⟩
        obtain ⟨r1, hr1⟩ : ∃ r1, inb.extract k inb.size = r1 := ⟨_, rfl⟩
        obtain ⟨r2, hr2⟩ : ∃ r2, r1.extract 1 r1.size = r2 := ⟨_, rfl⟩
        have hgl : L g = t := by
          rw [← hg, L_ext, htxt, List.drop_zero, Nat.sub_zero, ← hk, List.take_left]
        have hr1l : L r1 = 47 :: r := by
          rw [← hr1, L_ext, htxt, ← hk, List.drop_left, List.take_of_length_le (by rw [hsz, hlen, hk]; simp; omega)]
        have hr1s : (1 : Int) ≤ r1.size := by rw [← L_len, hr1l, List.length_cons]; omega
        have hr2l : L r2 = r := by
          rw [← hr2, L_ext, hr1l, List.drop_succ_cons, List.drop_zero, List.take_of_length_le (by rw [← L_len, hr1l]; simp)]
        have HI := hide (fun W => index27 inb W body (by rw [hAt.txt]; rfl) k (by rw [haft, ht, hk]; rfl))
        have HG : Hid (L g = t) := hide hgl
        have HR1 : Hid (L r1 = (if true then [47] else []) ++ r) := hide hr1l
        have HRR : Hid (L r2 = (if false then [47] else []) ++ r) := hide hr2l
        obtain ⟨f, hf⟩ : ∃ f, g = f := ⟨_, rfl⟩
        have HF : Hid (L f = (if false then [47] else []) ++ t) := hide (by rw [← hf, hgl]; rfl)
        subst hf
        have hfs : g.size ≤ inb.size := by rw [← L_len g, hgl, hk]; omega
        clear hgl htxt hr1l hr2l hlen
        obtain ⟨b0, hb0⟩ : ∃ b0, g.toList.isEmpty = b0 := ⟨_, rfl⟩
        obtain ⟨b1, hb1⟩ : ∃ b1, (g.toList == [46]) = b1 := ⟨_, rfl⟩
        obtain ⟨b2, hb2⟩ : ∃ b2, (g.toList == [46, 46]) = b2 := ⟨_, rfl⟩
        rw [tl_L, HG.out] at hb0 hb1 hb2
        have hgs : g.size = k := by rw [← L_len, HG.out, hk]
        by_cases h0 : t = []
        · have T0 : g.toList.isEmpty = true := by rw [tl_L, HG.out, h0]; rfl
          have m0 : (g.toList == []) = true := by rw [tl_L, HG.out, h0]; rfl
          have hst : stepP (seg body) false false ts = (ts, true) := by rw [ht, h0]; rfl
          have HD := hide (fun lb hlb W => dot28' g.size false false false false true (by rw [hgs, ← hk, h0]; decide) lb hlb W)
          have HST := hide hst
          have HAF := hide haft
          clear hst haft hAt ht hk hsa hroom htail hone hgs hb0 hb1 hb2 hsz
          go_wp2_with fail
          refine (unhide HI _).mono ?_
          rintro e w1 ⟨rfl, h00⟩
          obtain rfl : wr = w1 := h00.symm
          clear h00 HI
          go_wp2_with fail
          refine (unhide HD _ (by first | (simp; done) | (simp; omega) | rfl) _).mono ?_
          rintro e w1 ⟨rfl, h00⟩
          obtain rfl : wr = w1 := h00.symm
          clear h00 HD
          go_wp2_with fail
          go_roundw
          case rel => exact ⟨r1, true, r, _, rfl, rfl, hide (next_at HAt.out r HAF.out _ _ HST.out _ HAt.out.rem (Below.refl _ _) r1 HR1.out)⟩
          case measure =>
            show meas (.string r1) (.bool true) < meas (.string inb) (.bool false)
            rw [meas_eq r1 true r HR1.out, meas_eq inb false body HAt.out.txt]
            exact HLT.out
        · by_cases h1 : t = [46]
          · have T0 : g.toList.isEmpty = false := by rw [tl_L, HG.out, h1]; rfl
            have n2 : g.toList = [46] := by rw [tl_L, HG.out]; exact h1
            have hst : stepP (seg body) false false ts = (ts, false) := by rw [ht, h1]; rfl
            have HD := hide (fun lb hlb W => dot28' g.size false false false false false (by rw [hgs, ← hk, h1]; decide) lb hlb W)
            have HST := hide hst
            have HAF := hide haft
            clear hst haft hAt ht hk hsa hroom htail hone hgs hb0 hb1 hb2 hsz
            go_wp2_with fail
            refine (unhide HI _).mono ?_
            rintro e w1 ⟨rfl, h00⟩
            obtain rfl : wr = w1 := h00.symm
            clear h00 HI
            go_wp2_with fail
            refine (unhide HD _ (by first | (simp; done) | (simp; omega) | rfl) _).mono ?_
            rintro e w1 ⟨rfl, h00⟩
            obtain rfl : wr = w1 := h00.symm
            clear h00 HD
            go_wp2_with fail
            go_roundw
            case rel => exact ⟨r2, false, r, _, rfl, rfl, hide (next_at HAt.out r HAF.out _ _ HST.out _ HAt.out.rem (Below.refl _ _) r2 HRR.out)⟩
            case measure =>
              show meas (.string r2) (.bool false) < meas (.string inb) (.bool false)
              rw [meas_eq r2 false r HRR.out, meas_eq inb false body HAt.out.txt]
              exact HLT.out
          · by_cases h2 : t = [46, 46]
            · have T0 : g.toList.isEmpty = false := by rw [tl_L, HG.out, h2]; rfl
              have n2 : ¬ (g.toList = [46]) := by rw [tl_L, HG.out]; exact h1
              have n3 : g.toList = [46, 46] := by rw [tl_L, HG.out]; exact h2
              have m2 : (g.toList == [46]) = false := by simpa using n2
              have hst : stepP (seg body) false false ts = (ts, false) := by rw [ht, h2]; rfl
              have HD := hide (fun lb hlb W => dot28' g.size false false false false false (by rw [hgs, ← hk, h2]; decide) lb hlb W)
              have HST := hide hst
              have HAF := hide haft
              clear hst haft hAt ht hk hsa hroom htail hone hgs hb0 hb1 hb2 hsz
              go_wp2_with fail
              refine (unhide HI _).mono ?_
              rintro e w1 ⟨rfl, h00⟩
              obtain rfl : wr = w1 := h00.symm
              clear h00 HI
              go_wp2_with fail
              refine (unhide HD _ (by first | (simp; done) | (simp; omega) | rfl) _).mono ?_
              rintro e w1 ⟨rfl, h00⟩
              obtain rfl : wr = w1 := h00.symm
              clear h00 HD
              go_wp2_with fail
              go_roundw
              case rel => exact ⟨r2, false, r, _, rfl, rfl, hide (next_at HAt.out r HAF.out _ _ HST.out _ HAt.out.rem (Below.refl _ _) r2 HRR.out)⟩
              case measure =>
                show meas (.string r2) (.bool false) < meas (.string inb) (.bool false)
                rw [meas_eq r2 false r HRR.out, meas_eq inb false body HAt.out.txt]
                exact HLT.out
            · have T0 : g.toList.isEmpty = false := by rw [tl_L, HG.out]; cases t with | nil => exact absurd rfl h0 | cons _ _ => rfl
              have n2 : ¬ (g.toList = [46]) := by rw [tl_L, HG.out]; exact h1
              have n3 : ¬ (g.toList = [46, 46]) := by rw [tl_L, HG.out]; exact h2
              have m2 : (g.toList == [46]) = false := by simpa using n2
              have m3 : (g.toList == [46, 46]) = false := by simpa using n3
              have hdt : isDot t = false := by unfold isDot; simp [h1, h2]
              have hst : stepP (seg body) false false ts = (((if false then [47] else []) ++ t) :: ts, true) := by rw [ht]; unfold stepP; rw [if_neg (by simp [h0, hdt])]
              have HPU := hide (push_is D g _ HF.out ts wr hAt.rem (by have := L_len g; rw [HF.out] at this; omega))
              have HST := hide hst
              have HAF := hide haft
              clear hst haft hAt ht hk hsa hroom htail hone hgs hb0 hb1 hb2 hsz
              go_wp2_with fail
              refine (unhide HI _).mono ?_
              rintro e w1 ⟨rfl, h00⟩
              obtain rfl : wr = w1 := h00.symm
              clear h00 HI
              go_wp2_with fail
              refine (unhide HPU).mono ?_
              rintro e w2 ⟨rfl, hR2, hB2⟩
              have HR2 := hide hR2
              have HB2 := hide hB2
              clear hR2 hB2 HPU
              go_wp2_with fail
              go_roundw
              case rel => exact ⟨r1, true, r, _, rfl, rfl, hide (next_at HAt.out r HAF.out _ _ HST.out _ HR2.out HB2.out r1 HR1.out)⟩
              case measure =>
                show meas (.string r1) (.bool true) < meas (.string inb) (.bool false)
                rw [meas_eq r1 true r HR1.out, meas_eq inb false body HAt.out.txt]
                exact HLT.out
      · have htxt : L inb = 47 :: (t ++ 47 :: r) := by rw [hAt.txt, hsa]; rfl
        have hkI : (k : Int) + 2 ≤ inb.size := by rw [hsz, hlen]; simp; omega
        obtain ⟨bb, hbb⟩ : ∃ bb, inb.extract 1 inb.size = bb := ⟨_, rfl⟩
        obtain ⟨g, hg⟩ : ∃ g, inb.extract 1 (k + 1) = g := ⟨_, rfl⟩
        obtain ⟨f, hf⟩ : ∃ f, inb.extract 0 (k + 1) = f := ⟨_, rfl⟩
        obtain ⟨r1, hr1⟩ : ∃ r1, inb.extract (k + 1) inb.size = r1 := ⟨_, rfl⟩
        have hbl : L bb = body := by
          rw [← hbb, L_ext, htxt, List.drop_succ_cons, List.drop_zero, hsa, List.take_of_length_le (by rw [hsz]; simp)]
        have hgl : L g = t := by
          rw [← hg, L_ext, htxt, List.drop_succ_cons, List.drop_zero, Nat.add_sub_cancel, ← hk, List.take_left]
        have hfl : L f = 47 :: t := by
          rw [← hf, L_ext, htxt, List.drop_zero, Nat.sub_zero, List.take_succ_cons, ← hk, List.take_left]
        have hr1l : L r1 = 47 :: r := by
          rw [← hr1, L_ext, htxt, List.drop_succ_cons, ← hk, List.drop_left, List.take_of_length_le (by rw [hsz, hlen, hk]; simp; omega)]
        have HI := hide (fun W => index27 bb W body hbl k (by rw [haft, ht, hk]; rfl))
        have HG : Hid (L g = t) := hide hgl
        have HF : Hid (L f = (if true then [47] else []) ++ t) := hide hfl
        have HR1 : Hid (L r1 = (if true then [47] else []) ++ r) := hide hr1l
        have h47 : inb.extract 0 1 = ⟨#[47]⟩ := L_inj (by rw [L_ext, htxt]; rfl)
        have hfs : f.size ≤ inb.size := by rw [← L_len f, hfl, List.length_cons, hk]; omega
        clear hgl htxt hr1l hbl hfl hlen
        obtain ⟨b0, hb0⟩ : ∃ b0, g.toList.isEmpty = b0 := ⟨_, rfl⟩
        obtain ⟨b1, hb1⟩ : ∃ b1, (g.toList == [46]) = b1 := ⟨_, rfl⟩
        obtain ⟨b2, hb2⟩ : ∃ b2, (g.toList == [46, 46]) = b2 := ⟨_, rfl⟩
        rw [tl_L, HG.out] at hb0 hb1 hb2
        have hgs : g.size = k := by rw [← L_len, HG.out, hk]
        by_cases h0 : t = []
        · have T0 : g.toList.isEmpty = true := by rw [tl_L, HG.out, h0]; rfl
          have m0 : (g.toList == []) = true := by rw [tl_L, HG.out, h0]; rfl
          have hst : stepP (seg body) true false ts = ([47] :: ts, true) := by rw [ht, h0]; rfl
          have HD := hide (fun lb hlb W => dot28' g.size true false false true true (by rw [hgs, ← hk, h0]; decide) lb hlb W)
          have HPU := hide (fun W (h : Rem D ts W) => push_is D ⟨#[47]⟩ [47] rfl ts W h (by simp; omega))
          have HST := hide hst
          have HAF := hide haft
          clear hst haft hAt ht hk hsa hroom htail hone hgs hb0 hb1 hb2 hsz
          go_wp2_with fail
          refine (unhide HI _).mono ?_
          rintro e w1 ⟨rfl, h00⟩
          obtain rfl : wr = w1 := h00.symm
          clear h00 HI
          go_wp2_with fail
          refine (unhide HD _ (by first | (simp; done) | (simp; omega) | rfl) _).mono ?_
          rintro e w1 ⟨rfl, h00⟩
          obtain rfl : wr = w1 := h00.symm
          clear h00 HD
          go_wp2_with fail
          refine (unhide HPU _ HAt.out.rem).mono ?_
          rintro e w3 ⟨rfl, hR3, hB3⟩
          have HR3 := hide hR3
          have HB3 := hide hB3
          clear hR3 hB3 HPU
          go_wp2_with fail
          go_roundw
          case rel => exact ⟨r1, true, r, _, rfl, rfl, hide (next_at HAt.out r HAF.out _ _ HST.out _ HR3.out HB3.out r1 HR1.out)⟩
          case measure =>
            show meas (.string r1) (.bool true) < meas (.string inb) (.bool true)
            rw [meas_eq r1 true r HR1.out, meas_eq inb true body HAt.out.txt]
            exact HLT.out
        · by_cases h1 : t = [46]
          · have T0 : g.toList.isEmpty = false := by rw [tl_L, HG.out, h1]; rfl
            have n2 : g.toList = [46] := by rw [tl_L, HG.out]; exact h1
            have hst : stepP (seg body) true false ts = (ts, true) := by rw [ht, h1]; rfl
            have HD := hide (fun lb hlb W => dot28' g.size true false false false true (by rw [hgs, ← hk, h1]; decide) lb hlb W)
            have HST := hide hst
            have HAF := hide haft
            clear hst haft hAt ht hk hsa hroom htail hone hgs hb0 hb1 hb2 hsz
            go_wp2_with fail
            refine (unhide HI _).mono ?_
            rintro e w1 ⟨rfl, h00⟩
            obtain rfl : wr = w1 := h00.symm
            clear h00 HI
            go_wp2_with fail
            refine (unhide HD _ (by first | (simp; done) | (simp; omega) | rfl) _).mono ?_
            rintro e w1 ⟨rfl, h00⟩
            obtain rfl : wr = w1 := h00.symm
            clear h00 HD
            go_wp2_with fail
            go_roundw
            case rel => exact ⟨r1, true, r, _, rfl, rfl, hide (next_at HAt.out r HAF.out _ _ HST.out _ HAt.out.rem (Below.refl _ _) r1 HR1.out)⟩
            case measure =>
              show meas (.string r1) (.bool true) < meas (.string inb) (.bool true)
              rw [meas_eq r1 true r HR1.out, meas_eq inb true body HAt.out.txt]
              exact HLT.out
          · by_cases h2 : t = [46, 46]
            · have T0 : g.toList.isEmpty = false := by rw [tl_L, HG.out, h2]; rfl
              have n2 : ¬ (g.toList = [46]) := by rw [tl_L, HG.out]; exact h1
              have n3 : g.toList = [46, 46] := by rw [tl_L, HG.out]; exact h2
              have m2 : (g.toList == [46]) = false := by simpa using n2
              have hst : stepP (seg body) true false ts = (ts.tail, true) := by rw [ht, h2]; rfl
              have HD := hide (fun lb hlb W => dot28' g.size true false true false true (by rw [hgs, ← hk, h2]; decide) lb hlb W)
              have HPO := hide (pop29 D ts wr hAt.rem)
              have HST := hide hst
              have HAF := hide haft
              clear hst haft hAt ht hk hsa hroom htail hone hgs hb0 hb1 hb2 hsz
              go_wp2_with fail
              refine (unhide HI _).mono ?_
              rintro e w1 ⟨rfl, h00⟩
              obtain rfl : wr = w1 := h00.symm
              clear h00 HI
              go_wp2_with fail
              refine (unhide HD _ (by first | (simp; done) | (simp; omega) | rfl) _).mono ?_
              rintro e w1 ⟨rfl, h00⟩
              obtain rfl : wr = w1 := h00.symm
              clear h00 HD
              go_wp2_with fail
              refine (unhide HPO).mono ?_
              rintro e w2 ⟨rfl, hR2, hB2⟩
              have HR2 := hide hR2
              have HB2 := hide hB2
              clear hR2 hB2 HPO
              go_wp2_with fail
              go_roundw
              case rel => exact ⟨r1, true, r, _, rfl, rfl, hide (next_at HAt.out r HAF.out _ _ HST.out _ HR2.out HB2.out r1 HR1.out)⟩
              case measure =>
                show meas (.string r1) (.bool true) < meas (.string inb) (.bool true)
                rw [meas_eq r1 true r HR1.out, meas_eq inb true body HAt.out.txt]
                exact HLT.out
            · have T0 : g.toList.isEmpty = false := by rw [tl_L, HG.out]; cases t with | nil => exact absurd rfl h0 | cons _ _ => rfl
              have n2 : ¬ (g.toList = [46]) := by rw [tl_L, HG.out]; exact h1
              have n3 : ¬ (g.toList = [46, 46]) := by rw [tl_L, HG.out]; exact h2
              have m2 : (g.toList == [46]) = false := by simpa using n2
              have m3 : (g.toList == [46, 46]) = false := by simpa using n3
              have hdt : isDot t = false := by unfold isDot; simp [h1, h2]
              have hst : stepP (seg body) true false ts = (((if true then [47] else []) ++ t) :: ts, true) := by rw [ht]; unfold stepP; rw [if_neg (by simp [h0, hdt])]
              have HPU := hide (push_is D f _ HF.out ts wr hAt.rem (by have := L_len f; rw [HF.out] at this; omega))
              have HST := hide hst
              have HAF := hide haft
              clear hst haft hAt ht hk hsa hroom htail hone hgs hb0 hb1 hb2 hsz
              go_wp2_with fail
              refine (unhide HI _).mono ?_
              rintro e w1 ⟨rfl, h00⟩
              obtain rfl : wr = w1 := h00.symm
              clear h00 HI
              go_wp2_with fail
              refine (unhide HPU).mono ?_
              rintro e w2 ⟨rfl, hR2, hB2⟩
              have HR2 := hide hR2
              have HB2 := hide hB2
              clear hR2 hB2 HPU
              go_wp2_with fail
              go_roundw
              case rel => exact ⟨r1, true, r, _, rfl, rfl, hide (next_at HAt.out r HAF.out _ _ HST.out _ HR2.out HB2.out r1 HR1.out)⟩
              case measure =>
                show meas (.string r1) (.bool true) < meas (.string inb) (.bool true)
                rw [meas_eq r1 true r HR1.out, meas_eq inb true body HAt.out.txt]
                exact HLT.out
end Go.Proofs.Qxb6614616aDoor
