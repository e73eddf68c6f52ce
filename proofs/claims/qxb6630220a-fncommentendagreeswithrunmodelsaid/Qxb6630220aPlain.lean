/-
  PLAIN LAWS, no Go in sight: where a nested comment ends.
-/
namespace Go.Proofs.Qxb6630220a

/-- Where the comment ends, reading the bytes from place p on at depth d. -/
def cend : List UInt8 → Nat → Int → Option Nat
  | [], _, _ => none
  | [_], _, _ => none
  | a :: b :: t, p, d =>
    if a = 47 ∧ b = 42 then cend t (p + 2) (d + 1)
    else if a = 42 ∧ b = 47 then (if d = 1 then some (p + 2) else cend t (p + 2) (d - 1))
    else cend (b :: t) (p + 1) d

/-- What commentEnd answers: the place behind the comment, or the text's length. -/
def ce (l : List UInt8) (i : Nat) : Nat := (cend (l.drop i) i 0).getD l.length

theorem cend_two (a b : UInt8) (t : List UInt8) (p : Nat) (d : Int) : cend (a :: b :: t) p d =
    if a = 47 ∧ b = 42 then cend t (p + 2) (d + 1) else if a = 42 ∧ b = 47 then (if d = 1 then some (p + 2) else cend t (p + 2) (d - 1)) else cend (b :: t) (p + 1) d := by
  rw [cend]

theorem two_ind {P : List UInt8 → Prop} (h0 : P []) (h1 : ∀ a, P [a]) (h2 : ∀ a b t, P t → P (b :: t) → P (a :: b :: t)) : ∀ l, P l := by
  have : ∀ n (l : List UInt8), l.length ≤ n → P l := by
    intro n
    induction n with
    | zero =>
      intro l hl
      have e : l = [] := List.eq_nil_of_length_eq_zero (by omega)
      rw [e]
      exact h0
    | succ n ih =>
      intro l hl
      match l, hl with
      | [], _ => exact h0
      | [a], _ => exact h1 a
      | a :: b :: t, hl =>
        simp at hl
        exact h2 a b t (ih t (by omega)) (ih (b :: t) (by simp; omega))
  exact fun l => this l.length l (Nat.le_refl _)

/-- What is found lies at least two behind the start, within the text, just behind a closing mark. -/
theorem cend_some (u : List UInt8) : ∀ (p : Nat) (d : Int) (q : Nat), cend u p d = some q → p + 2 ≤ q ∧ q ≤ p + u.length ∧ u[q - p - 2]? = some 42 ∧ u[q - p - 1]? = some 47 := by
  refine two_ind (P := fun u => ∀ (p : Nat) (d : Int) (q : Nat), cend u p d = some q → p + 2 ≤ q ∧ q ≤ p + u.length ∧ u[q - p - 2]? = some 42 ∧ u[q - p - 1]? = some 47) ?_ ?_ ?_ u
  · intro p d q h; simp [cend] at h
  · intro a p d q h; simp [cend] at h
  · intro a b t ih1 ih2 p d q h
    have two : ∀ d', cend t (p + 2) d' = some q → p + 2 ≤ q ∧ q ≤ p + (a :: b :: t).length ∧ (a :: b :: t)[q - p - 2]? = some 42 ∧ (a :: b :: t)[q - p - 1]? = some 47 := by
      intro d' h'
      obtain ⟨g1, g2, g3, g4⟩ := ih1 _ _ _ h'
      refine ⟨by omega, by simp; omega, ?_, ?_⟩
      · rw [show q - p - 2 = (q - (p + 2) - 2) + 1 + 1 by omega]; simpa using g3
      · rw [show q - p - 1 = (q - (p + 2) - 1) + 1 + 1 by omega]; simpa using g4
    rw [cend_two] at h
    by_cases h1 : a = 47 ∧ b = 42
    · rw [if_pos h1] at h; exact two _ h
    · rw [if_neg h1] at h
      by_cases h2 : a = 42 ∧ b = 47
      · rw [if_pos h2] at h
        by_cases h3 : d = 1
        · rw [if_pos h3] at h
          simp at h
          subst h
          obtain ⟨rfl, rfl⟩ := h2
          refine ⟨by omega, by simp, ?_, ?_⟩
          · rw [show p + 2 - p - 2 = 0 by omega]; rfl
          · rw [show p + 2 - p - 1 = 1 by omega]; rfl
        · rw [if_neg h3] at h; exact two _ h
      · rw [if_neg h2] at h
        obtain ⟨g1, g2, g3, g4⟩ := ih2 _ _ _ h
        refine ⟨by omega, by simp at g2 ⊢; omega, ?_, ?_⟩
        · rw [show q - p - 2 = (q - (p + 1) - 2) + 1 by omega]; simpa using g3
        · rw [show q - p - 1 = (q - (p + 1) - 1) + 1 by omega]; simpa using g4

/-- What lies behind the close is never read. -/
theorem cend_cut (u : List UInt8) : ∀ (p : Nat) (d : Int) (q : Nat), cend u p d = some q → ∀ v, cend (u.take (q - p) ++ v) p d = some q := by
  refine two_ind (P := fun u => ∀ (p : Nat) (d : Int) (q : Nat), cend u p d = some q → ∀ v, cend (u.take (q - p) ++ v) p d = some q) ?_ ?_ ?_ u
  · intro p d q h; simp [cend] at h
  · intro a p d q h; simp [cend] at h
  · intro a b t ih1 ih2 p d q h v
    have hs := cend_some _ _ _ _ h
    have e : (a :: b :: t).take (q - p) = a :: b :: t.take (q - (p + 2)) := by
      rw [show q - p = (q - (p + 2)) + 1 + 1 by omega]; simp
    have e1 : b :: t.take (q - (p + 2)) = (b :: t).take (q - (p + 1)) := by
      rw [show q - (p + 1) = (q - (p + 2)) + 1 by omega]; simp
    rw [e, List.cons_append, List.cons_append, cend_two]
    rw [cend_two] at h
    by_cases h1 : a = 47 ∧ b = 42
    · rw [if_pos h1] at h ⊢; exact ih1 _ _ _ h v
    · rw [if_neg h1] at h ⊢
      by_cases h2 : a = 42 ∧ b = 47
      · rw [if_pos h2] at h ⊢
        by_cases h3 : d = 1
        · rw [if_pos h3] at h ⊢; exact h
        · rw [if_neg h3] at h ⊢; exact ih1 _ _ _ h v
      · rw [if_neg h2] at h ⊢
        rw [← List.cons_append, e1]
        exact ih2 _ _ _ h v

/-- Where the places begin makes no odds. -/
theorem cend_shift (c : Nat) (u : List UInt8) : ∀ (p : Nat) (d : Int), cend u (c + p) d = (cend u p d).map (c + ·) := by
  refine two_ind (P := fun u => ∀ (p : Nat) (d : Int), cend u (c + p) d = (cend u p d).map (c + ·)) ?_ ?_ ?_ u
  · intro p d; simp [cend]
  · intro a p d; simp [cend]
  · intro a b t ih1 ih2 p d
    rw [cend_two, cend_two]
    by_cases h1 : a = 47 ∧ b = 42
    · rw [if_pos h1, if_pos h1, Nat.add_assoc, ih1]
    · rw [if_neg h1, if_neg h1]
      by_cases h2 : a = 42 ∧ b = 47
      · rw [if_pos h2, if_pos h2]
        by_cases h3 : d = 1
        · rw [if_pos h3, if_pos h3]; simp [Nat.add_assoc]
        · rw [if_neg h3, if_neg h3, Nat.add_assoc, ih1]
      · rw [if_neg h2, if_neg h2, Nat.add_assoc, ih2]

/-- If nothing is found in u, then in u and what follows nothing ends within u. -/
theorem cend_none (u : List UInt8) : ∀ (p : Nat) (d : Int), cend u p d = none → ∀ v q, cend (u ++ v) p d = some q → p + u.length ≤ q := by
  refine two_ind (P := fun u => ∀ (p : Nat) (d : Int), cend u p d = none → ∀ v q, cend (u ++ v) p d = some q → p + u.length ≤ q) ?_ ?_ ?_ u
  · intro p d _ v q h; have := cend_some _ _ _ _ h; simp; omega
  · intro a p d _ v q h; have := cend_some _ _ _ _ h; simp; omega
  · intro a b t ih1 ih2 p d h v q hq
    rw [List.cons_append, List.cons_append, cend_two] at hq
    rw [cend_two] at h
    by_cases h1 : a = 47 ∧ b = 42
    · rw [if_pos h1] at h hq; have := ih1 _ _ h v q hq; simp; omega
    · rw [if_neg h1] at h hq
      by_cases h2 : a = 42 ∧ b = 47
      · rw [if_pos h2] at h hq
        by_cases h3 : d = 1
        · rw [if_pos h3] at h; simp at h
        · rw [if_neg h3] at h hq; have := ih1 _ _ h v q hq; simp; omega
      · rw [if_neg h2] at h hq
        have := ih2 _ _ h v q (by rw [List.cons_append]; exact hq)
        simp at this ⊢
        omega

theorem ce_le (l : List UInt8) (i : Nat) : ce l i ≤ l.length := by
  unfold ce
  cases h : cend (l.drop i) i 0 with
  | none => simp
  | some q =>
    have := cend_some _ _ _ _ h
    simp at this ⊢
    omega

/-- THE FIRST LAW, where the comment closed inside. -/
theorem ce_inside (p s t : List UInt8) (i : Nat) (h : ce s i < s.length) :
    i + 2 ≤ ce s i ∧ s[ce s i - 2]? = some 42 ∧ s[ce s i - 1]? = some 47 ∧ ce (p ++ s.take (ce s i) ++ t) (p.length + i) = p.length + ce s i := by
  unfold ce at h
  cases hc : cend (s.drop i) i 0 with
  | none => rw [hc] at h; simp at h
  | some q =>
    rw [hc] at h
    simp at h
    have hce : ce s i = q := by unfold ce; rw [hc]; rfl
    rw [hce]
    obtain ⟨g1, g2, g3, g4⟩ := cend_some _ _ _ _ hc
    rw [List.getElem?_drop] at g3 g4
    rw [show i + (q - i - 2) = q - 2 by omega] at g3
    rw [show i + (q - i - 1) = q - 1 by omega] at g4
    refine ⟨g1, g3, g4, ?_⟩
    unfold ce
    have e : (p ++ s.take q ++ t).drop (p.length + i) = (s.drop i).take (q - i) ++ t := by
      rw [List.append_assoc, ← List.drop_drop, List.drop_left, List.drop_append, List.drop_take]
      congr 1
      rw [List.length_take, Nat.min_eq_left (by omega), show i - q = 0 by omega, List.drop_zero]
    rw [e, cend_shift, cend_cut _ _ _ _ hc t]
    rfl

/-- THE FIRST LAW, where it did not. -/
theorem ce_outside (p s t : List UInt8) (i : Nat) (h : ¬ ce s i < s.length) : p.length + s.length ≤ ce (p ++ s ++ t) (p.length + i) := by
  have he : (p ++ s ++ t).drop (p.length + i) = s.drop i ++ t.drop (i - s.length) := by
    rw [List.append_assoc, ← List.drop_drop, List.drop_left, List.drop_append]
  unfold ce
  rw [he, cend_shift]
  unfold ce at h
  cases hc : cend (s.drop i) i 0 with
  | none =>
    cases hq : cend (s.drop i ++ t.drop (i - s.length)) i 0 with
    | none => simp
    | some q =>
      simp
      by_cases hi : i ≤ s.length
      · have := cend_none _ _ _ hc _ _ hq
        simp at this
        omega
      · have := cend_some _ _ _ _ hq
        omega
  | some q =>
    rw [hc] at h
    simp at h
    have h1 := cend_some _ _ _ _ hc
    have h2 := cend_cut _ _ _ _ hc (t.drop (i - s.length))
    have e : (s.drop i).take (q - i) = s.drop i := List.take_of_length_le (by simp; omega)
    rw [e] at h2
    rw [h2]
    simp
    omega

/-! ### runs of alternating marks -/
def mark (c : UInt8) : Bool := c == 47 || c == 42

/-- How many marks follow, each another than the one before it. -/
def alt : UInt8 → List UInt8 → Nat
  | _, [] => 0
  | x, y :: t => if mark y = true ∧ y ≠ x then alt y t + 1 else 0

theorem alt_le (x : UInt8) (t : List UInt8) : alt x t ≤ t.length := by
  induction t generalizing x with
  | nil => simp [alt]
  | cons y t ih =>
    rw [alt]
    split
    · have := ih y; simp; omega
    · simp

theorem mark_cases {y : UInt8} (h : mark y = true) : y = 47 ∨ y = 42 := by
  simpa [mark] using h

theorem alt_slash (y : UInt8) (t : List UInt8) : alt 47 (y :: t) = if y = 42 then alt 42 t + 1 else 0 := by
  rw [alt]
  by_cases h : y = 42
  · subst h; simp [mark]
  · rw [if_neg h, if_neg]
    rintro ⟨h1, h2⟩
    rcases mark_cases h1 with e | e
    · exact h2 e
    · exact h e

theorem alt_star (y : UInt8) (t : List UInt8) : alt 42 (y :: t) = if y = 47 then alt 47 t + 1 else 0 := by
  rw [alt]
  by_cases h : y = 47
  · subst h; simp [mark]
  · rw [if_neg h, if_neg]
    rintro ⟨h1, h2⟩
    rcases mark_cases h1 with e | e
    · exact h e
    · exact h2 e

/-- A run that begins with a slash opens a comment for each pair. -/
theorem cend_slash (n : Nat) : ∀ (t : List UInt8) (p : Nat) (d : Int), alt 47 t = n → cend (47 :: t) p d = cend (t.drop n) (p + n + 1) (d + ((n + 1) / 2 : Nat)) := by
  induction n using Nat.strongRecOn with
  | _ n ih =>
    intro t p d hn
    match t with
    | [] =>
      simp [alt] at hn
      subst hn
      simp [cend]
    | y :: t2 =>
      rw [alt_slash] at hn
      by_cases hy : y = 42
      · subst hy
        rw [if_pos rfl] at hn
        rw [cend_two, if_pos ⟨rfl, rfl⟩]
        match t2 with
        | [] =>
          simp [alt] at hn
          subst hn
          simp [cend]
        | z :: t3 =>
          rw [alt_star] at hn
          by_cases hz : z = 47
          · subst hz
            rw [if_pos rfl] at hn
            subst hn
            rw [ih (alt 47 t3) (by omega) t3 (p + 2) (d + 1) rfl]
            simp only [List.drop_succ_cons]
            congr 1
            · omega
            · omega
          · rw [if_neg hz] at hn
            subst hn
            simp
      · rw [if_neg hy] at hn
        subst hn
        rw [cend_two, if_neg (by simp [hy]), if_neg (by simp)]
        simp

/-- A run that begins with a star closes one for each pair. -/
theorem cend_star (n : Nat) : ∀ (t : List UInt8) (p : Nat) (d : Int), alt 42 t = n →
    cend (42 :: t) p d = if 1 ≤ d ∧ d ≤ ((n + 1) / 2 : Nat) then some (p + 2 * d.toNat) else cend (t.drop n) (p + n + 1) (d - ((n + 1) / 2 : Nat)) := by
  induction n using Nat.strongRecOn with
  | _ n ih =>
    intro t p d hn
    match t with
    | [] =>
      simp [alt] at hn
      subst hn
      rw [if_neg (by omega)]
      simp [cend]
    | y :: t2 =>
      rw [alt_star] at hn
      by_cases hy : y = 47
      · subst hy
        rw [if_pos rfl] at hn
        rw [cend_two, if_neg (by decide), if_pos ⟨rfl, rfl⟩]
        by_cases hd : d = 1
        · subst hd
          rw [if_pos rfl, if_pos (by omega)]
          simp
        · rw [if_neg hd]
          match t2 with
          | [] =>
            simp [alt] at hn
            subst hn
            rw [if_neg (by omega)]
            simp [cend]
          | z :: t3 =>
            rw [alt_slash] at hn
            by_cases hz : z = 42
            · subst hz
              rw [if_pos rfl] at hn
              subst hn
              rw [ih (alt 42 t3) (by omega) t3 (p + 2) (d - 1) rfl]
              by_cases hc : 1 ≤ d - 1 ∧ d - 1 ≤ ((alt 42 t3 + 1) / 2 : Nat)
              · rw [if_pos hc, if_pos (by omega)]
                congr 1
                omega
              · rw [if_neg hc, if_neg (by omega)]
                simp only [List.drop_succ_cons]
                congr 1
                · omega
                · omega
            · rw [if_neg hz] at hn
              subst hn
              rw [if_neg (by omega)]
              simp
      · rw [if_neg hy] at hn
        subst hn
        rw [cend_two, if_neg (by simp), if_neg (by simp [hy]), if_neg (by omega)]
        simp

/-- Any other byte is passed over. -/
theorem cend_other (x : UInt8) (t : List UInt8) (p : Nat) (d : Int) (h : mark x = false) : cend (x :: t) p d = cend t (p + 1) d := by
  match t with
  | [] => simp [cend]
  | y :: t2 =>
    simp [mark] at h
    rw [cend_two, if_neg (by simp [h.1]), if_neg (by simp [h.2])]

end Go.Proofs.Qxb6630220a
