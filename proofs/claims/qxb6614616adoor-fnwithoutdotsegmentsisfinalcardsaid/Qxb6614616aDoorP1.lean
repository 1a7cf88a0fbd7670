/-
  The plain law: what taking the dot segments out does to a path, over lists of bytes.
-/
namespace Go.Proofs.Qxb6614616aDoor
def isDot (t : List UInt8) : Bool := t == [46] || t == [46, 46]
def hd (acc : List UInt8) : List UInt8 → Bool
  | [] => isDot acc
  | b :: t => if b = 47 then isDot acc || hd [] t else hd (acc ++ [b]) t
def holdsDot (l : List UInt8) : Bool := hd [] l
def ls (acc : List UInt8) : List UInt8 → List UInt8
  | [] => acc
  | b :: t => if b = 47 then ls [] t else ls (acc ++ [b]) t
def lastSeg (l : List UInt8) : List UInt8 := ls [] l
def no47 (l : List UInt8) : Prop := ∀ b ∈ l, b ≠ 47
def seg (l : List UInt8) : List UInt8 := l.takeWhile (· != 47)
def aft (l : List UInt8) : List UInt8 := l.dropWhile (· != 47)
theorem seg_aft (l : List UInt8) : seg l ++ aft l = l := List.takeWhile_append_dropWhile
theorem seg_no47 (l : List UInt8) : no47 (seg l) := by
  intro b hb
  unfold seg at hb
  have := List.all_takeWhile (p := fun b : UInt8 => b != 47) (l := l)
  rw [List.all_eq_true] at this
  simpa using this b hb
theorem aft_head (l : List UInt8) (b : UInt8) (r : List UInt8) (h : aft l = b :: r) : b = 47 := by
  have hne : l.dropWhile (· != 47) ≠ [] := by show aft l ≠ []; rw [h]; simp
  have h3 := List.head_dropWhile_not (fun b : UInt8 => b != 47) hne
  have e : (l.dropWhile (· != 47)).head hne = b := by
    have h' : l.dropWhile (· != 47) = b :: r := h
    simp only [h', List.head_cons]
  rw [e] at h3
  simpa using h3
theorem hd_no47 (t : List UInt8) : ∀ acc, no47 t → hd acc t = isDot (acc ++ t) := by
  induction t with
  | nil => intro acc _; simp [hd]
  | cons b t ih =>
    intro acc h
    have hb : b ≠ 47 := h b (by simp)
    rw [hd, if_neg hb, ih _ (fun x hx => h x (by simp [hx]))]
    simp
theorem hd_app (u : List UInt8) : ∀ acc t, hd acc (u ++ 47 :: t) = (hd acc u || hd [] t) := by
  induction u with
  | nil => intro acc t; simp [hd]
  | cons b u ih =>
    intro acc t
    by_cases hb : b = 47
    · rw [List.cons_append, hd, if_pos hb, hd, if_pos hb, ih, Bool.or_assoc]
    · rw [List.cons_append, hd, if_neg hb, hd, if_neg hb, ih]
theorem ls_no47 (t : List UInt8) : ∀ acc, no47 t → ls acc t = acc ++ t := by
  induction t with
  | nil => intro acc _; simp [ls]
  | cons b t ih =>
    intro acc h
    have hb : b ≠ 47 := h b (by simp)
    rw [ls, if_neg hb, ih _ (fun x hx => h x (by simp [hx]))]
    simp
theorem ls_app (u : List UInt8) : ∀ acc t, ls acc (u ++ 47 :: t) = ls [] t := by
  induction u with
  | nil => intro acc t; simp [ls]
  | cons b u ih =>
    intro acc t
    by_cases hb : b = 47
    · rw [List.cons_append, ls, if_pos hb, ih]
    · rw [List.cons_append, ls, if_neg hb, ih]
/-- What one segment does: (what is kept behind it, whether the next begins with '/'). -/
def stepP (t : List UInt8) (slash last : Bool) (kept : List (List UInt8)) : List (List UInt8) × Bool :=
  if t = [] ∨ isDot t = true then
    ((if slash && (t.length == 0 || last) then [[47]] else []) ++ (if slash && t.length == 2 then kept.tail else kept), slash || t.length == 0)
  else (((if slash then [47] else []) ++ t) :: kept, true)
def readP : Nat → List UInt8 → Bool → List (List UInt8) → List (List UInt8)
  | 0, _, _, kept => kept
  | n + 1, body, slash, kept =>
    match aft body with
    | [] => (stepP (seg body) slash true kept).1
    | _ :: r => readP n r (stepP (seg body) slash false kept).2 (stepP (seg body) slash false kept).1
def flat : List (List UInt8) → List UInt8
  | [] => []
  | x :: ks => flat ks ++ x
def opens (l : List UInt8) : Bool := match l with
  | b :: _ => b == 47
  | [] => false
def bodyOf (l : List UInt8) : List UInt8 := if opens l then l.drop 1 else l
def removeP (l : List UInt8) : List UInt8 := flat (readP (l.length + 1) (bodyOf l) (opens l) [])
def Good : List (List UInt8) → Prop
  | [] => True
  | x :: ks => Good ks ∧ ((∃ t, x = 47 :: t ∧ no47 t ∧ isDot t = false) ∨ (ks = [] ∧ no47 x ∧ isDot x = false))
theorem good_flat : ∀ ks, Good ks → hd [] (flat ks) = false
  | [], _ => rfl
  | x :: ks, h => by
    obtain ⟨hk, ⟨t, rfl, h1, h2⟩ | ⟨rfl, h1, h2⟩⟩ := h
    · rw [flat, hd_app, good_flat ks hk, hd_no47 t [] h1]
      simpa using h2
    · rw [flat, flat, List.nil_append, hd_no47 x [] h1]
      simpa using h2
theorem good_tail (ks : List (List UInt8)) (h : Good ks) : Good ks.tail := by
  cases ks with
  | nil => exact h
  | cons x ks => exact h.1
theorem step_good (t : List UInt8) (slash last : Bool) (kept : List (List UInt8)) (ht : no47 t) (hs : slash = false → kept = []) (hg : Good kept) : Good (stepP t slash last kept).1 ∧ ((stepP t slash last kept).2 = false → (stepP t slash last kept).1 = []) := by
  unfold stepP
  have g47 : ∀ ks, Good ks → Good ([47] :: ks) := fun ks h => ⟨h, .inl ⟨[], rfl, (fun b hb => by cases hb), rfl⟩⟩
  cases slash
  · have hk := hs rfl
    subst hk
    by_cases hc : t = [] ∨ isDot t = true
    · rw [if_pos hc]; simp [Good]
    · rw [if_neg hc]
      refine ⟨⟨trivial, .inr ⟨rfl, ?_, ?_⟩⟩, fun h => by cases h⟩
      · simpa using ht
      · have := not_or.1 hc
        simpa using this.2
  · by_cases hc : t = [] ∨ isDot t = true
    · rw [if_pos hc]
      refine ⟨?_, fun h => by simp at h⟩
      have h1 : Good (if true && t.length == 2 then kept.tail else kept) := by
        split
        · exact good_tail _ hg
        · exact hg
      show Good ((if true && (t.length == 0 || last) then [[47]] else []) ++ (if true && t.length == 2 then kept.tail else kept))
      split
      · exact g47 _ h1
      · exact h1
    · rw [if_neg hc]
      have := not_or.1 hc
      exact ⟨⟨hg, .inl ⟨t, rfl, ht, by simpa using this.2⟩⟩, fun h => by cases h⟩
theorem read_good : ∀ (n : Nat) (body : List UInt8) (slash : Bool) (kept : List (List UInt8)), (slash = false → kept = []) → Good kept → Good (readP n body slash kept)
  | 0, _, _, _, _, hg => hg
  | n + 1, body, slash, kept, hs, hg => by
    unfold readP
    split
    · exact (step_good _ _ _ _ (seg_no47 body) hs hg).1
    · have := step_good (seg body) slash false kept (seg_no47 body) hs hg
      exact read_good n _ _ _ this.2 this.1
theorem remove_final (l : List UInt8) : holdsDot (removeP l) = false := good_flat _ (read_good _ _ _ _ (fun _ => rfl) trivial)
theorem step_len (t : List UInt8) (slash last : Bool) (kept : List (List UInt8)) : (flat (stepP t slash last kept).1).length ≤ (flat kept).length + (if slash then 1 else 0) + t.length := by
  have htail : (flat kept.tail).length ≤ (flat kept).length := by
    cases kept with
    | nil => exact Nat.le_refl _
    | cons x ks => simp [flat]
  unfold stepP
  by_cases hc : t = [] ∨ isDot t = true
  · rw [if_pos hc]
    have h1 : (flat (if slash && t.length == 2 then kept.tail else kept)).length ≤ (flat kept).length := by
      split
      · exact htail
      · exact Nat.le_refl _
    show (flat ((if slash && (t.length == 0 || last) then [[47]] else []) ++ (if slash && t.length == 2 then kept.tail else kept))).length ≤ _
    generalize (if slash && t.length == 2 then kept.tail else kept) = K at h1 ⊢
    have h2 : (flat ([[47]] ++ K)).length = (flat K).length + 1 := by
      show (flat ([47] :: K)).length = _
      rw [flat, List.length_append]
      rfl
    cases slash
    · simp only [Bool.false_and, Bool.false_eq_true, if_false, List.nil_append]
      omega
    · simp only [if_true]
      split
      · omega
      · rw [List.nil_append]; omega
  · rw [if_neg hc]
    show (flat ((_ ++ t) :: kept)).length ≤ _
    rw [flat, List.length_append, List.length_append]
    cases slash <;> simp <;> omega
theorem read_len : ∀ (n : Nat) (body : List UInt8) (slash : Bool) (kept : List (List UInt8)), (flat (readP n body slash kept)).length ≤ (flat kept).length + (if slash then 1 else 0) + body.length
  | 0, _, _, _ => by unfold readP; omega
  | n + 1, body, slash, kept => by
    have hsa := congrArg List.length (seg_aft body)
    rw [List.length_append] at hsa
    unfold readP
    split
    · have := step_len (seg body) slash true kept
      omega
    · rename_i b r hr
      rw [hr, List.length_cons] at hsa
      have h1 := step_len (seg body) slash false kept
      have h2 := read_len n r (stepP (seg body) slash false kept).2 (stepP (seg body) slash false kept).1
      have h3 : (if (stepP (seg body) slash false kept).2 = true then 1 else 0) ≤ 1 := by split <;> omega
      omega
theorem body_len (l : List UInt8) : (if opens l then 1 else 0) + (bodyOf l).length = l.length := by
  unfold bodyOf
  cases l with
  | nil => simp [opens]
  | cons b t =>
    by_cases h : opens (b :: t) = true
    · rw [if_pos h, if_pos h]; simp; omega
    · rw [if_neg h, if_neg h]; simp
theorem remove_len (l : List UInt8) : (removeP l).length ≤ l.length := by
  have h1 := read_len (l.length + 1) (bodyOf l) (opens l) []
  have h2 := body_len l
  unfold removeP
  simp [flat] at h1
  omega
theorem step_last (t : List UInt8) (slash : Bool) (kept : List (List UInt8)) (hd : isDot t = false) : ∃ u, flat (stepP t slash true kept).1 = u ++ t := by
  unfold stepP
  by_cases hc : t = [] ∨ isDot t = true
  · have ht : t = [] := by
      rcases hc with h | h
      · exact h
      · rw [hd] at h; cases h
    rw [ht]
    exact ⟨_, (List.append_nil _).symm⟩
  · rw [if_neg hc]
    exact ⟨flat kept ++ (if slash then [47] else []), by rw [flat, List.append_assoc]⟩
theorem read_last : ∀ (n : Nat) (body : List UInt8) (slash : Bool) (kept : List (List UInt8)), body.length < n → isDot (lastSeg body) = false → ∃ u, flat (readP n body slash kept) = u ++ lastSeg body
  | 0, _, _, _, h, _ => by omega
  | n + 1, body, slash, kept, h, hd => by
    have hsa := seg_aft body
    unfold readP
    split
    · rename_i ha
      rw [ha, List.append_nil] at hsa
      have hl : lastSeg body = seg body := by
        have := ls_no47 (seg body) [] (seg_no47 body)
        rw [hsa] at this
        rw [hsa]
        exact this
      rw [hl] at hd ⊢
      exact step_last _ _ _ hd
    · rename_i b r hr
      have hb := aft_head body b r hr
      subst hb
      rw [hr] at hsa
      have hl : lastSeg body = lastSeg r := by
        have := ls_app (seg body) [] r
        rw [hsa] at this
        exact this
      have hlen := congrArg List.length hsa
      rw [List.length_append, List.length_cons] at hlen
      rw [hl] at hd ⊢
      exact read_last n r _ _ (by omega) hd
theorem last_body (l : List UInt8) : lastSeg (bodyOf l) = lastSeg l := by
  unfold bodyOf
  cases l with
  | nil => rfl
  | cons b t =>
    by_cases h : opens (b :: t) = true
    · rw [if_pos h]
      have hb : b = 47 := by simpa [opens] using h
      subst hb
      show ls [] t = ls [] (47 :: t)
      rw [ls, if_pos rfl]
    · rw [if_neg h]
theorem remove_last (l : List UInt8) (h : isDot (lastSeg l) = false) : ∃ u, removeP l = u ++ lastSeg l := by
  have h1 := body_len l
  rw [← last_body l] at h ⊢
  exact read_last _ _ _ _ (by omega) h
end Go.Proofs.Qxb6614616aDoor
