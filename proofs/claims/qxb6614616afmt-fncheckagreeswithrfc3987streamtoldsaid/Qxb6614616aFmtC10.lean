/-
  check: one byte that is no ASCII.
-/
import Derived.Test.Qxb6614616aFmtC9
namespace Go.Proofs.Qxb6614616aFmt
open Go.RowKit Go.Lib
set_option linter.unusedSimpArgs false
def qNext (o : Bool) (q : ByteArray) (c : Nat) : ByteArray := if o then q ++ one c else q
def oNext (o : Bool) (q : ByteArray) : Bool := if o then decide (q.size + 1 < 3) else false
def uniNext (a n st r : Nat) (bad ref : Bool) : Nat × Bool × Bool :=
  if st = 0 then (n, bad, ref) else if st = 2 then (0, true, ref) else (0, bad, ref || (!ucsG r && !(decide (a = 5) && prvG r)))
theorem uni_2 (a n r : Nat) (bad ref : Bool) : uniNext a n 2 r bad ref = (0, true, ref) := rfl
theorem uni_0 (a n r : Nat) (bad ref : Bool) : uniNext a n 0 r bad ref = (n, bad, ref) := rfl
theorem uni_1 (a n r : Nat) (bad ref : Bool) : uniNext a n 1 r bad ref = (0, bad, ref || (!ucsG r && !(decide (a = 5) && prvG r))) := rfl
set_option maxRecDepth 100000 in
set_option maxHeartbeats 8000000 in
theorem check_uni (B a k : Nat) (p : Nat → Nat) (bad ref o : Bool) (q : ByteArray) (c : Nat) (w : World) (h : Nrm B a k p bad ref o q w) (hk : (k : Int) ≤ 3) (hq : o = true → q.size ≤ 2) (hc0 : (128 : Int) ≤ c) (hc1 : (c : Int) ≤ 255)
    (hp : ∀ j, j < 4 → p j < 256) (h0 : 128 ≤ setP p k c 0) (hf : k + 1 ≤ firstT (setP p k c 0) % 8) :
    Calls Tryf.prog 14 #[.pointer (some ⟨B, 0, none⟩), .int .u8 c] w fun e w' => e = .returned (.tuple #[]) ∧
      Nrm B a (uniNext a (k + 1) (scanN (k + 1) (setP p k c 0) (setP p k c 1) (setP p k c 2) (setP p k c 3)).1 (scanN (k + 1) (setP p k c 0) (setP p k c 1) (setP p k c 2) (setP p k c 3)).2 bad ref).1 (setP p k c)
        (uniNext a (k + 1) (scanN (k + 1) (setP p k c 0) (setP p k c 1) (setP p k c 2) (setP p k c 3)).1 (scanN (k + 1) (setP p k c 0) (setP p k c 1) (setP p k c 2) (setP p k c 3)).2 bad ref).2.1
        (uniNext a (k + 1) (scanN (k + 1) (setP p k c 0) (setP p k c 1) (setP p k c 2) (setP p k c 3)).1 (scanN (k + 1) (setP p k c 0) (setP p k c 1) (setP p k c 2) (setP p k c 3)).2 bad ref).2.2
        (oNext o q) (qNext o q c) w' ∧ Below B w w' := by
  have hp' : ∀ j, j < 4 → setP p k c j < 256 := fun j hj => by
    unfold setP; split
    · omega
    · exact hp j hj
  obtain ⟨p', hpp⟩ : ∃ p', setP p k c = p' := ⟨_, rfl⟩
  have HPP : Hid _ := hpp
  rw [hpp] at h0 hf hp' ⊢
  clear hpp
  obtain ⟨n, hn⟩ : ∃ n, k + 1 = n := ⟨_, rfl⟩
  rw [hn] at hf ⊢
  obtain ⟨q', hqq⟩ : ∃ q', qNext o q c = q' := ⟨_, rfl⟩
  obtain ⟨o', hoo⟩ : ∃ o', oNext o q = o' := ⟨_, rfl⟩
  rw [hqq, hoo]
  generalize hQ : (fun (e : Ending) (w' : World) => e = .returned (.tuple #[]) ∧ Nrm B a (uniNext a n (scanN n (p' 0) (p' 1) (p' 2) (p' 3)).1 (scanN n (p' 0) (p' 1) (p' 2) (p' 3)).2 bad ref).1 p' (uniNext a n (scanN n (p' 0) (p' 1) (p' 2) (p' 3)).1 (scanN n (p' 0) (p' 1) (p' 2) (p' 3)).2 bad ref).2.1 (uniNext a n (scanN n (p' 0) (p' 1) (p' 2) (p' 3)).1 (scanN n (p' 0) (p' 1) (p' 2) (p' 3)).2 bad ref).2.2 o' q' w' ∧ Below B w w') = Q
  have HQ : Hid _ := hQ; clear hQ
  have HN : Hid _ := hn
  have HQQ : Hid _ := hqq
  have HOO : Hid _ := hoo
  have HF : Hid _ := hf
  have H0 : Hid _ := h0
  have HP : Hid _ := hp'
  have c25 := h.open_
  have craw := h.raw k (by omega)
  have c20 := h.len
  have c24 := h.quote
  have f16 := h.free (16 + k)
  have f20 := h.free 20
  have f24 := h.free 24
  have f25 := h.free 25
  have hsz := h.size
  have H := hide h
  clear h hp hp' h0 hf hn hqq hoo
  have hcv := conv1 w c
  cases o
  · clear hq hcv
    go_enter Tryf.func14, Tryf.ntmps14
    go_wp2_with fail
    go_region
    go_wp2_with fail
    refine wp_gen (fun w' => Nrm B a n p' bad ref o' q' w' ∧ Below B w w') ?_ ?_
    · have h := H.out
      have e1 := HPP.out
      have e2 := HN.out
      have e3 := HQQ.out
      have e4 := HOO.out
      subst e1 e2 e3 e4
      have u1 := Upd.set craw (.int .u8 c)
      have n1 := h.setRaw (by omega) u1
      have u2 := Upd.set n1.len (.int .i64 ((k + 1 : Nat) : Int))
      have n2 := n1.setLen u2
      exact ⟨n2.below (Below.refl (B + 1) _).drew (Nat.lt_succ_self B), (u1.below.trans u2.below).drew⟩
    · rintro w1 ⟨h1, hb1⟩
      clear c20 craw c24 c25 f16 f20 f24 f25 hsz
      have hn1 : (1 : Int) ≤ n := by have := HN.out; omega
      have hn4 : (n : Int) ≤ 4 := by have := HN.out; omega
      have l0 := HP.out 0 (by omega)
      have l1 := HP.out 1 (by omega)
      have l2 := HP.out 2 (by omega)
      have l3 := HP.out 3 (by omega)
      have hfd := scan_zero n (p' 0) (p' 1) (p' 2) (p' 3) H0.out (by omega) (by omega) HF.out
      have hd1 : Below (B + 1) w1 w1.drew := (Below.refl (B + 1) w1).drew
      have n1 := h1.below hd1 (Nat.lt_succ_self B)
      have HFull := hide (full_any n (p' 0) (p' 1) (p' 2) 4 B w1.drew n1.tabs (by omega) l0 l2 n1.size (n1.raw 0 (by omega)) (n1.raw 1 (by omega)) (n1.raw 2 (by omega)))
      rw [hfd] at HFull
      have c20 := h1.len
      have H1 := hide h1
      have HB1 := hide hb1
      have hcase : Hid ((scanN n (p' 0) (p' 1) (p' 2) (p' 3)).1 ≠ 0 → _) := scan_dec n (p' 0) (p' 1) (p' 2) (p' 3) H0.out (by omega) l1 l2 l3 (by omega) HF.out
      clear hfd hd1 n1 h1 hb1
      by_cases hst : (scanN n (p' 0) (p' 1) (p' 2) (p' 3)).1 = 0
      · rw [hst] at HFull HQ
        rw [uni_0] at HQ
        have HFull' : Hid _ := HFull
        clear hst HFull hcase l0 l1 l2 l3
        rw [show (decide ((0 : Nat) ≠ 0)) = false from rfl] at HFull'
        go_region_held3 (fun W => W.cell? ⟨B, 20, none⟩ = some (.int .i64 n)) (first | assumption | (simp; assumption)) ((first | (go_at_call 22; refine (unhide HFull').mono ?_; rintro e w2 ⟨rfl, hb2⟩; have hS2 := (hb2.cell (p := ⟨B, 20, none⟩) H1.out.size).trans c20)))
        go_wp2_with fail
        go_end0
        rw [← HQ.out]
        have hb : Below (B + 1) w1 w2 := ((Below.refl (B + 1) w1).drew).trans (hb2.mono H1.out.size)
        exact ⟨rfl, H1.out.below hb (Nat.lt_succ_self B), HB1.out.trans (hb.mono (Nat.le_succ B))⟩
      · have hc2 := hcase.out hst
        rw [show (decide ((scanN n (p' 0) (p' 1) (p' 2) (p' 3)).1 ≠ 0)) = true from decide_eq_true hst] at HFull
        clear hst hcase
        go_region_held3 (fun W => W.cell? ⟨B, 20, none⟩ = some (.int .i64 n)) (first | assumption | (simp; assumption)) ((first | (go_at_call 22; refine (unhide HFull).mono ?_; rintro e w2 ⟨rfl, hb2⟩; have hS2 := (hb2.cell (p := ⟨B, 20, none⟩) H1.out.size).trans c20)))
        clear HFull
        have hb : Below (B + 1) w1 w2 := ((Below.refl (B + 1) w1).drew).trans (hb2.mono H1.out.size)
        have h2 := H1.out.below hb (Nat.lt_succ_self B)
        have HB2 := hide (HB1.out.trans (hb.mono (Nat.le_succ B)))
        clear c20 hb hb2 hS2
        have n2 := h2.below (Below.refl (B + 1) w2).drew (Nat.lt_succ_self B)
        have HDec := hide (decode_any n (p' 0) (p' 1) (p' 2) (p' 3) 4 B w2.drew n2.tabs (by omega) (by omega) l0 l1 l2 l3 (n2.raw 0 (by omega)) (n2.raw 1 (by omega)) (n2.raw 2 (by omega)) (n2.raw 3 (by omega)))
        have c20 := h2.len
        have H2 := hide h2
        clear n2 h2 l0 l1 l2 l3
        rcases hc2 with ⟨hst, hdec⟩ | ⟨hst, hdec, hn2, hr⟩
        · rw [hst] at HQ
          rw [uni_2] at HQ
          rw [hdec] at HDec
          clear hst hdec
          go_wp2_with fail
          go_region_held3 (fun W => W.cell? ⟨B, 20, none⟩ = some (.int .i64 n)) (first | assumption | (simp; assumption)) ((first | (go_at_call 23; refine (unhide HDec).mono ?_; rintro e w3 ⟨rfl, hb3⟩; have hS3 := (hb3.cell (p := ⟨B, 20, none⟩) H2.out.size).trans c20)))
          clear HDec
          have hb : Below (B + 1) w2 w3 := ((Below.refl (B + 1) w2).drew).trans (hb3.mono H2.out.size)
          have h3 := H2.out.below hb (Nat.lt_succ_self B)
          have HB3 := hide (HB2.out.trans (hb.mono (Nat.le_succ B)))
          have H3 := hide h3
          clear c20 hb hb3 hS3
          have c20 := h3.len
          have c21 := h3.bad_
          have f20 := h3.free 20
          have f21 := h3.free 21
          clear h3
          go_wp2_with fail
          go_end0
          rw [← HQ.out]
          have u1 := Upd.set c21 (.bool true)
          have m1 := H3.out.setBad u1
          have u2 := Upd.set m1.len (.int .i64 ((0 : Nat) : Int))
          exact ⟨rfl, m1.setLen u2, (HB3.out.trans u1.below).trans u2.below⟩
        · rw [hst] at HQ
          rw [uni_1] at HQ
          rw [hdec] at HDec
          obtain ⟨r, hr2⟩ : ∃ r, (scanN n (p' 0) (p' 1) (p' 2) (p' 3)).2 = r := ⟨_, rfl⟩
          rw [hr2] at HQ HDec hr
          clear hst hdec hr2
          have hr' : Hid ((r : Int) ≤ 1114111) := by show (r : Int) ≤ 1114111; omega
          have hn2' : (2 : Int) ≤ n := by omega
          clear hr hn2
          go_wp2_with fail
          go_region_held3 (fun W => W.cell? ⟨B, 20, none⟩ = some (.int .i64 n)) (first | assumption | (simp; assumption)) ((first | (go_at_call 23; refine (unhide HDec).mono ?_; rintro e w3 ⟨rfl, hb3⟩; have hS3 := (hb3.cell (p := ⟨B, 20, none⟩) H2.out.size).trans c20)))
          clear HDec
          have hb : Below (B + 1) w2 w3 := ((Below.refl (B + 1) w2).drew).trans (hb3.mono H2.out.size)
          have h3 := H2.out.below hb (Nat.lt_succ_self B)
          have HB3 := hide (HB2.out.trans (hb.mono (Nat.le_succ B)))
          have H3 := hide h3
          clear c20 hb hb3 hS3
          have c20 := h3.len
          have c0 := h3.at_
          have f20 := h3.free 20
          have HU := hide (isUCS_any r w3 hr'.out)
          have HV := hide (isPrivate_any r w3)
          obtain ⟨v, c23, hv⟩ := h3.err
          have HR := hide (refuse_any (r : Int) B w3 ref v h3.size hv c23 (h3.free 23))
          clear h3 c23 hv hr'
          obtain ⟨t, ht⟩ : ∃ t, ((r : Int) == 65533) = t := ⟨_, rfl⟩
          rcases (by cases ucsG r <;> cases prvG r <;> by_cases h5 : a = 5 <;> simp [h5] : ucsG r = true ∨ (ucsG r = false ∧ a = 5 ∧ prvG r = true) ∨ (ucsG r = false ∧ a = 5 ∧ prvG r = false) ∨ (ucsG r = false ∧ a ≠ 5)) with hu | ⟨hu, ha, hv⟩ | ⟨hu, ha, hv⟩ | ⟨hu, ha⟩
          · rw [show (ref || (!ucsG r && !(decide (a = 5) && prvG r))) = ref by rw [hu]; simp] at HQ
            rw [hu] at HU
            clear hu HR HV
            cases t
            all_goals go_wp2_with ((go_at_call 24; refine (unhide HU).mono ?_; rintro e w' ⟨rfl, rfl⟩))
            all_goals
              go_end0
              rw [← HQ.out]
              have u2 := Upd.set c20 (.int .i64 ((0 : Nat) : Int))
              exact ⟨rfl, H3.out.setLen u2, HB3.out.trans u2.below⟩
          · rw [show (ref || (!ucsG r && !(decide (a = 5) && prvG r))) = ref by rw [hu, hv, ha]; simp] at HQ
            rw [hu] at HU
            rw [hv] at HV
            subst ha
            clear hu hv HR
            cases t
            all_goals go_wp2_with ((first | (go_at_call 24; refine (unhide HU).mono ?_; rintro e w' ⟨rfl, rfl⟩) | (go_at_call 25; refine (unhide HV).mono ?_; rintro e w' ⟨rfl, rfl⟩)))
            all_goals
              go_end0
              rw [← HQ.out]
              have u2 := Upd.set c20 (.int .i64 ((0 : Nat) : Int))
              exact ⟨rfl, H3.out.setLen u2, HB3.out.trans u2.below⟩
          · rw [show (ref || (!ucsG r && !(decide (a = 5) && prvG r))) = true by rw [hu, hv, ha]; simp] at HQ
            rw [hu] at HU
            rw [hv] at HV
            subst ha
            clear hu hv
            cases t
            all_goals go_wp2_with ((first | (go_at_call 24; refine (unhide HU).mono ?_; rintro e w' ⟨rfl, rfl⟩) | (go_at_call 25; refine (unhide HV).mono ?_; rintro e w' ⟨rfl, rfl⟩) | (go_at_call 21; refine (unhide HR).mono ?_; rintro e w4 ⟨rfl, hw4⟩; have HW4 := hide hw4; have c20' := (hw4.cell 20 (by omega)).trans c20; have f20' := (hw4.free 20).trans f20; clear hw4)))
            all_goals
              go_end0
              rw [← HQ.out]
              have m4 := H3.out.refused HW4.out
              have u2 := Upd.set m4.len (.int .i64 ((0 : Nat) : Int))
              exact ⟨rfl, m4.setLen u2, (HB3.out.trans HW4.out.below).trans u2.below⟩
          · rw [show (ref || (!ucsG r && !(decide (a = 5) && prvG r))) = true by rw [hu]; simp [ha]] at HQ
            rw [hu] at HU
            have ha' : ((a : Int) == 5) = false := by simp; omega
            clear hu HV ha
            cases t
            all_goals go_wp2_with ((first | (go_at_call 24; refine (unhide HU).mono ?_; rintro e w' ⟨rfl, rfl⟩) | (go_at_call 21; refine (unhide HR).mono ?_; rintro e w4 ⟨rfl, hw4⟩; have HW4 := hide hw4; have c20' := (hw4.cell 20 (by omega)).trans c20; have f20' := (hw4.free 20).trans f20; clear hw4)))
            all_goals
              go_end0
              rw [← HQ.out]
              have m4 := H3.out.refused HW4.out
              have u2 := Upd.set m4.len (.int .i64 ((0 : Nat) : Int))
              exact ⟨rfl, m4.setLen u2, (HB3.out.trans HW4.out.below).trans u2.below⟩
  · have hs1 : (9223372036854775807 < q.size + (one c).size) = False := eq_false (by have : (one c).size = 1 := rfl; have := hq rfl; omega)
    have HX1 := hide (show (one c).size = 1 from rfl)
    obtain ⟨x1, hx1⟩ : ∃ x1, one c = x1 := ⟨_, rfl⟩
    rw [hx1] at hs1 HX1 hcv
    have HX : Hid _ := hx1
    clear hq hx1
    go_enter Tryf.func14, Tryf.ntmps14
    go_wp2_with fail
    go_region
    go_wp2_with fail
    go_region
    go_wp2_with fail
    refine wp_gen (fun w' => Nrm B a n p' bad ref o' q' w' ∧ Below B w w') ?_ ?_
    · have h := H.out
      have e1 := HPP.out
      have e2 := HN.out
      have e3 := HQQ.out
      have e4 := HOO.out
      have e5 := HX.out
      subst e1 e2 e3 e4 e5
      have hd : decide ((q.size : Int) + ((one c).size : Int) < 3) = oNext true q := decide_eq_decide.2 (by have := HX1.out; omega)
      rw [hd]
      have u1 := Upd.set c24 (.string (q ++ one c))
      have n1 := h.setQuote u1
      have u2 := Upd.set n1.open_ (.bool (oNext true q))
      have n2 := n1.setOpen u2
      have u3 := Upd.set (n2.raw k (by omega)) (.int .u8 c)
      have n3 := n2.setRaw (by omega) u3
      have u4 := Upd.set n3.len (.int .i64 ((k + 1 : Nat) : Int))
      have n4 := n3.setLen u4
      exact ⟨n4.below ((Below.refl (B + 1) _).alloc n4.size _).drew.drew (Nat.lt_succ_self B), ((((u1.below.trans u2.below).trans u3.below).trans u4.below).alloc (Nat.le_of_lt n4.size) _).drew.drew⟩
    · rintro w1 ⟨h1, hb1⟩
      clear c20 craw c24 c25 f16 f20 f24 f25 hsz
      have hn1 : (1 : Int) ≤ n := by have := HN.out; omega
      have hn4 : (n : Int) ≤ 4 := by have := HN.out; omega
      have l0 := HP.out 0 (by omega)
      have l1 := HP.out 1 (by omega)
      have l2 := HP.out 2 (by omega)
      have l3 := HP.out 3 (by omega)
      have hfd := scan_zero n (p' 0) (p' 1) (p' 2) (p' 3) H0.out (by omega) (by omega) HF.out
      have hd1 : Below (B + 1) w1 w1.drew := (Below.refl (B + 1) w1).drew
      have n1 := h1.below hd1 (Nat.lt_succ_self B)
      have HFull := hide (full_any n (p' 0) (p' 1) (p' 2) 4 B w1.drew n1.tabs (by omega) l0 l2 n1.size (n1.raw 0 (by omega)) (n1.raw 1 (by omega)) (n1.raw 2 (by omega)))
      rw [hfd] at HFull
      have c20 := h1.len
      have H1 := hide h1
      have HB1 := hide hb1
      have hcase : Hid ((scanN n (p' 0) (p' 1) (p' 2) (p' 3)).1 ≠ 0 → _) := scan_dec n (p' 0) (p' 1) (p' 2) (p' 3) H0.out (by omega) l1 l2 l3 (by omega) HF.out
      clear hfd hd1 n1 h1 hb1
      by_cases hst : (scanN n (p' 0) (p' 1) (p' 2) (p' 3)).1 = 0
      · rw [hst] at HFull HQ
        rw [uni_0] at HQ
        have HFull' : Hid _ := HFull
        clear hst HFull hcase l0 l1 l2 l3
        rw [show (decide ((0 : Nat) ≠ 0)) = false from rfl] at HFull'
        go_region_held3 (fun W => W.cell? ⟨B, 20, none⟩ = some (.int .i64 n)) (first | assumption | (simp; assumption)) ((first | (go_at_call 22; refine (unhide HFull').mono ?_; rintro e w2 ⟨rfl, hb2⟩; have hS2 := (hb2.cell (p := ⟨B, 20, none⟩) H1.out.size).trans c20)))
        go_wp2_with fail
        go_end0
        rw [← HQ.out]
        have hb : Below (B + 1) w1 w2 := ((Below.refl (B + 1) w1).drew).trans (hb2.mono H1.out.size)
        exact ⟨rfl, H1.out.below hb (Nat.lt_succ_self B), HB1.out.trans (hb.mono (Nat.le_succ B))⟩
      · have hc2 := hcase.out hst
        rw [show (decide ((scanN n (p' 0) (p' 1) (p' 2) (p' 3)).1 ≠ 0)) = true from decide_eq_true hst] at HFull
        clear hst hcase
        go_region_held3 (fun W => W.cell? ⟨B, 20, none⟩ = some (.int .i64 n)) (first | assumption | (simp; assumption)) ((first | (go_at_call 22; refine (unhide HFull).mono ?_; rintro e w2 ⟨rfl, hb2⟩; have hS2 := (hb2.cell (p := ⟨B, 20, none⟩) H1.out.size).trans c20)))
        clear HFull
        have hb : Below (B + 1) w1 w2 := ((Below.refl (B + 1) w1).drew).trans (hb2.mono H1.out.size)
        have h2 := H1.out.below hb (Nat.lt_succ_self B)
        have HB2 := hide (HB1.out.trans (hb.mono (Nat.le_succ B)))
        clear c20 hb hb2 hS2
        have n2 := h2.below (Below.refl (B + 1) w2).drew (Nat.lt_succ_self B)
        have HDec := hide (decode_any n (p' 0) (p' 1) (p' 2) (p' 3) 4 B w2.drew n2.tabs (by omega) (by omega) l0 l1 l2 l3 (n2.raw 0 (by omega)) (n2.raw 1 (by omega)) (n2.raw 2 (by omega)) (n2.raw 3 (by omega)))
        have c20 := h2.len
        have H2 := hide h2
        clear n2 h2 l0 l1 l2 l3
        rcases hc2 with ⟨hst, hdec⟩ | ⟨hst, hdec, hn2, hr⟩
        · rw [hst] at HQ
          rw [uni_2] at HQ
          rw [hdec] at HDec
          clear hst hdec
          go_wp2_with fail
          go_region_held3 (fun W => W.cell? ⟨B, 20, none⟩ = some (.int .i64 n)) (first | assumption | (simp; assumption)) ((first | (go_at_call 23; refine (unhide HDec).mono ?_; rintro e w3 ⟨rfl, hb3⟩; have hS3 := (hb3.cell (p := ⟨B, 20, none⟩) H2.out.size).trans c20)))
          clear HDec
          have hb : Below (B + 1) w2 w3 := ((Below.refl (B + 1) w2).drew).trans (hb3.mono H2.out.size)
          have h3 := H2.out.below hb (Nat.lt_succ_self B)
          have HB3 := hide (HB2.out.trans (hb.mono (Nat.le_succ B)))
          have H3 := hide h3
          clear c20 hb hb3 hS3
          have c20 := h3.len
          have c21 := h3.bad_
          have f20 := h3.free 20
          have f21 := h3.free 21
          clear h3
          go_wp2_with fail
          go_end0
          rw [← HQ.out]
          have u1 := Upd.set c21 (.bool true)
          have m1 := H3.out.setBad u1
          have u2 := Upd.set m1.len (.int .i64 ((0 : Nat) : Int))
          exact ⟨rfl, m1.setLen u2, (HB3.out.trans u1.below).trans u2.below⟩
        · rw [hst] at HQ
          rw [uni_1] at HQ
          rw [hdec] at HDec
          obtain ⟨r, hr2⟩ : ∃ r, (scanN n (p' 0) (p' 1) (p' 2) (p' 3)).2 = r := ⟨_, rfl⟩
          rw [hr2] at HQ HDec hr
          clear hst hdec hr2
          have hr' : Hid ((r : Int) ≤ 1114111) := by show (r : Int) ≤ 1114111; omega
          have hn2' : (2 : Int) ≤ n := by omega
          clear hr hn2
          go_wp2_with fail
          go_region_held3 (fun W => W.cell? ⟨B, 20, none⟩ = some (.int .i64 n)) (first | assumption | (simp; assumption)) ((first | (go_at_call 23; refine (unhide HDec).mono ?_; rintro e w3 ⟨rfl, hb3⟩; have hS3 := (hb3.cell (p := ⟨B, 20, none⟩) H2.out.size).trans c20)))
          clear HDec
          have hb : Below (B + 1) w2 w3 := ((Below.refl (B + 1) w2).drew).trans (hb3.mono H2.out.size)
          have h3 := H2.out.below hb (Nat.lt_succ_self B)
          have HB3 := hide (HB2.out.trans (hb.mono (Nat.le_succ B)))
          have H3 := hide h3
          clear c20 hb hb3 hS3
          have c20 := h3.len
          have c0 := h3.at_
          have f20 := h3.free 20
          have HU := hide (isUCS_any r w3 hr'.out)
          have HV := hide (isPrivate_any r w3)
          obtain ⟨v, c23, hv⟩ := h3.err
          have HR := hide (refuse_any (r : Int) B w3 ref v h3.size hv c23 (h3.free 23))
          clear h3 c23 hv hr'
          obtain ⟨t, ht⟩ : ∃ t, ((r : Int) == 65533) = t := ⟨_, rfl⟩
          rcases (by cases ucsG r <;> cases prvG r <;> by_cases h5 : a = 5 <;> simp [h5] : ucsG r = true ∨ (ucsG r = false ∧ a = 5 ∧ prvG r = true) ∨ (ucsG r = false ∧ a = 5 ∧ prvG r = false) ∨ (ucsG r = false ∧ a ≠ 5)) with hu | ⟨hu, ha, hv⟩ | ⟨hu, ha, hv⟩ | ⟨hu, ha⟩
          · rw [show (ref || (!ucsG r && !(decide (a = 5) && prvG r))) = ref by rw [hu]; simp] at HQ
            rw [hu] at HU
            clear hu HR HV
            cases t
            all_goals go_wp2_with ((go_at_call 24; refine (unhide HU).mono ?_; rintro e w' ⟨rfl, rfl⟩))
            all_goals
              go_end0
              rw [← HQ.out]
              have u2 := Upd.set c20 (.int .i64 ((0 : Nat) : Int))
              exact ⟨rfl, H3.out.setLen u2, HB3.out.trans u2.below⟩
          · rw [show (ref || (!ucsG r && !(decide (a = 5) && prvG r))) = ref by rw [hu, hv, ha]; simp] at HQ
            rw [hu] at HU
            rw [hv] at HV
            subst ha
            clear hu hv HR
            cases t
            all_goals go_wp2_with ((first | (go_at_call 24; refine (unhide HU).mono ?_; rintro e w' ⟨rfl, rfl⟩) | (go_at_call 25; refine (unhide HV).mono ?_; rintro e w' ⟨rfl, rfl⟩)))
            all_goals
              go_end0
              rw [← HQ.out]
              have u2 := Upd.set c20 (.int .i64 ((0 : Nat) : Int))
              exact ⟨rfl, H3.out.setLen u2, HB3.out.trans u2.below⟩
          · rw [show (ref || (!ucsG r && !(decide (a = 5) && prvG r))) = true by rw [hu, hv, ha]; simp] at HQ
            rw [hu] at HU
            rw [hv] at HV
            subst ha
            clear hu hv
            cases t
            all_goals go_wp2_with ((first | (go_at_call 24; refine (unhide HU).mono ?_; rintro e w' ⟨rfl, rfl⟩) | (go_at_call 25; refine (unhide HV).mono ?_; rintro e w' ⟨rfl, rfl⟩) | (go_at_call 21; refine (unhide HR).mono ?_; rintro e w4 ⟨rfl, hw4⟩; have HW4 := hide hw4; have c20' := (hw4.cell 20 (by omega)).trans c20; have f20' := (hw4.free 20).trans f20; clear hw4)))
            all_goals
              go_end0
              rw [← HQ.out]
              have m4 := H3.out.refused HW4.out
              have u2 := Upd.set m4.len (.int .i64 ((0 : Nat) : Int))
              exact ⟨rfl, m4.setLen u2, (HB3.out.trans HW4.out.below).trans u2.below⟩
          · rw [show (ref || (!ucsG r && !(decide (a = 5) && prvG r))) = true by rw [hu]; simp [ha]] at HQ
            rw [hu] at HU
            have ha' : ((a : Int) == 5) = false := by simp; omega
            clear hu HV ha
            cases t
            all_goals go_wp2_with ((first | (go_at_call 24; refine (unhide HU).mono ?_; rintro e w' ⟨rfl, rfl⟩) | (go_at_call 21; refine (unhide HR).mono ?_; rintro e w4 ⟨rfl, hw4⟩; have HW4 := hide hw4; have c20' := (hw4.cell 20 (by omega)).trans c20; have f20' := (hw4.free 20).trans f20; clear hw4)))
            all_goals
              go_end0
              rw [← HQ.out]
              have m4 := H3.out.refused HW4.out
              have u2 := Upd.set m4.len (.int .i64 ((0 : Nat) : Int))
              exact ⟨rfl, m4.setLen u2, (HB3.out.trans HW4.out.below).trans u2.below⟩
end Go.Proofs.Qxb6614616aFmt
