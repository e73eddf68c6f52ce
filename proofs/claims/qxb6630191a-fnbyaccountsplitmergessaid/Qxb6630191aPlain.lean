/-
  PLAIN LAWS, no Go in sight: orders, the groups that byAccount makes, and what the two laws ask of them.
-/
namespace Go.Proofs.Qxb6630191a

/-- An order: six fields. -/
structure Ord where
  id : Int
  acc : Int
  bank : ByteArray
  accTo : ByteArray
  amt : Int
  ks : ByteArray

/-- The account ids in the order in which they are first seen. -/
def accs (os : List Ord) : List Int := os.foldl (fun l o => if l.contains o.acc then l else l ++ [o.acc]) []

/-- Those orders that carry the id a. -/
def only (a : Int) (os : List Ord) : List Ord := os.filter (fun o => o.acc == a)

/-- One group an id. -/
def grp (os : List Ord) : List (List Ord) := (accs os).map (fun a => only a os)

theorem accs_nil : accs [] = [] := rfl

theorem accs_snoc (p : List Ord) (o : Ord) : accs (p ++ [o]) = if (accs p).contains o.acc then accs p else accs p ++ [o.acc] := by
  simp [accs, List.foldl_append]

theorem only_snoc (a : Int) (p : List Ord) (o : Ord) : only a (p ++ [o]) = only a p ++ (if o.acc == a then [o] else []) := by
  unfold only
  rw [List.filter_append]
  by_cases h : (o.acc == a) = true <;> simp [h]

theorem snoc_ind {P : List Ord → Prop} (h0 : P []) (h1 : ∀ p o, P p → P (p ++ [o])) : ∀ l, P l := by
  intro l
  have : ∀ n (l : List Ord), l.length = n → P l := by
    intro n
    induction n with
    | zero => intro l hl; rw [List.eq_nil_of_length_eq_zero hl]; exact h0
    | succ n ih =>
      intro l hl
      have hne : l ≠ [] := by intro e; rw [e] at hl; simp at hl
      rw [← List.dropLast_concat_getLast hne]
      exact h1 _ _ (ih _ (by simp [hl]))
  exact this _ l rfl

theorem mem_accs (os : List Ord) (a : Int) : a ∈ accs os ↔ ∃ o ∈ os, o.acc = a := by
  refine snoc_ind (P := fun os => a ∈ accs os ↔ ∃ o ∈ os, o.acc = a) ?_ ?_ os
  · simp [accs]
  · intro p o ih
    rw [accs_snoc]
    by_cases hc : (accs p).contains o.acc = true
    · rw [if_pos hc]
      rw [ih]
      constructor
      · rintro ⟨x, hx, e⟩; exact ⟨x, by simp [hx], e⟩
      · rintro ⟨x, hx, e⟩
        rw [List.mem_append] at hx
        rcases hx with hx | hx
        · exact ⟨x, hx, e⟩
        · simp at hx
          subst hx
          rw [← ih, ← e]
          simpa using hc
    · rw [if_neg hc, List.mem_append, ih]
      constructor
      · rintro (⟨x, hx, e⟩ | e)
        · exact ⟨x, by simp [hx], e⟩
        · simp at e; exact ⟨o, by simp, e.symm⟩
      · rintro ⟨x, hx, e⟩
        rw [List.mem_append] at hx
        rcases hx with hx | hx
        · exact .inl ⟨x, hx, e⟩
        · simp at hx; subst hx; exact .inr (by simp [e])

theorem nodup_accs (os : List Ord) : (accs os).Nodup := by
  refine snoc_ind (P := fun os => (accs os).Nodup) (by simp [accs]) ?_ os
  intro p o ih
  rw [accs_snoc]
  split
  · exact ih
  · rename_i h
    rw [List.nodup_append]
    refine ⟨ih, by simp, ?_⟩
    intro x hx y hy e
    simp at hy
    subst hy
    subst e
    exact h (by simpa using hx)

theorem only_nil_of (a : Int) (p : List Ord) (h : a ∉ accs p) : only a p = [] := by
  unfold only
  rw [List.filter_eq_nil_iff]
  intro o ho e
  exact h ((mem_accs p a).2 ⟨o, ho, by simpa using e⟩)

theorem only_head (a : Int) (p : List Ord) (h : a ∈ accs p) : ∃ o l, only a p = o :: l ∧ o.acc = a := by
  obtain ⟨o, ho, e⟩ := (mem_accs p a).1 h
  have hm : o ∈ only a p := by unfold only; rw [List.mem_filter]; exact ⟨ho, by simpa using e⟩
  match hl : only a p with
  | [] => rw [hl] at hm; simp at hm
  | x :: l =>
    refine ⟨x, l, rfl, ?_⟩
    have : x ∈ only a p := by rw [hl]; simp
    unfold only at this
    rw [List.mem_filter] at this
    simpa using this.2

theorem length_grp (os : List Ord) : (grp os).length = (accs os).length := by simp [grp]

theorem length_accs_le (os : List Ord) : (accs os).length ≤ os.length := by
  refine snoc_ind (P := fun os => (accs os).length ≤ os.length) (by simp [accs]) ?_ os
  intro p o ih
  rw [accs_snoc]
  split <;> simp <;> omega

theorem length_only_le (a : Int) (os : List Ord) : (only a os).length ≤ os.length := List.length_filter_le _ _

/-- One order more, its id seen before at place k. -/
theorem grp_old (p : List Ord) (o : Ord) (k : Nat) (hk : (accs p)[k]? = some o.acc) :
    accs (p ++ [o]) = accs p ∧ grp (p ++ [o]) = (grp p).set k (only o.acc p ++ [o]) := by
  have hm : o.acc ∈ accs p := List.mem_of_getElem? hk
  have e : accs (p ++ [o]) = accs p := by rw [accs_snoc, if_pos (by simpa using hm)]
  refine ⟨e, ?_⟩
  have hkl : k < (accs p).length := by
    rcases Nat.lt_or_ge k (accs p).length with h | h
    · exact h
    · rw [List.getElem?_eq_none h] at hk; cases hk
  apply List.ext_getElem?
  intro i
  rw [List.getElem?_set]
  unfold grp
  rw [e]
  simp only [List.getElem?_map, List.length_map]
  by_cases hik : k = i
  · subst hik
    rw [if_pos rfl, if_pos hkl, hk]
    simp [only_snoc]
  · rw [if_neg hik]
    cases hi : (accs p)[i]? with
    | none => rfl
    | some a =>
      simp only [Option.map_some]
      rw [only_snoc]
      have hne : (o.acc == a) = false := by
        rw [beq_eq_false_iff_ne]
        intro ea
        apply hik
        have hil : i < (accs p).length := by
          rcases Nat.lt_or_ge i (accs p).length with h | h
          · exact h
          · rw [List.getElem?_eq_none h] at hi; cases hi
        have hn := nodup_accs p
        rw [List.getElem?_eq_getElem hkl] at hk
        rw [List.getElem?_eq_getElem hil] at hi
        simp only [Option.some.injEq] at hk hi
        exact (List.getElem_inj hn).1 (by rw [hk, hi, ea])
      simp [hne]

/-- One order more, its id new. -/
theorem grp_new (p : List Ord) (o : Ord) (hk : o.acc ∉ accs p) :
    accs (p ++ [o]) = accs p ++ [o.acc] ∧ grp (p ++ [o]) = grp p ++ [[o]] := by
  have e : accs (p ++ [o]) = accs p ++ [o.acc] := by rw [accs_snoc, if_neg (by simpa using hk)]
  refine ⟨e, ?_⟩
  unfold grp
  rw [e, List.map_append]
  congr 1
  · apply List.map_congr_left
    intro a ha
    rw [only_snoc]
    have hne : (o.acc == a) = false := by
      rw [beq_eq_false_iff_ne]
      intro ea
      rw [ea] at hk
      exact hk ha
    simp [hne]
  · simp [only_snoc, only_nil_of _ _ hk]

/-- The least place of an order that carries the id, or the length. -/
def fpos (os : List Ord) (a : Int) : Nat := os.findIdx (fun o => o.acc == a)

theorem fpos_lt (os : List Ord) (a : Int) (h : a ∈ accs os) : fpos os a < os.length := by
  obtain ⟨o, ho, e⟩ := (mem_accs os a).1 h
  exact List.findIdx_lt_length_of_exists ⟨o, ho, by simpa using e⟩

/-- It is at j that the id of order j is first seen, just if it was not seen before. -/
theorem fpos_eq_iff (os : List Ord) (j : Nat) (hj : j < os.length) : fpos os os[j].acc = j ↔ os[j].acc ∉ accs (os.take j) := by
  unfold fpos
  rw [List.findIdx_eq hj, mem_accs]
  constructor
  · rintro ⟨_, h2⟩ ⟨o, ho, e⟩
    obtain ⟨i, hi, rfl⟩ := List.getElem_of_mem ho
    have hi' : i < j := by simp at hi; omega
    have := h2 i hi'
    simp only [List.getElem_take] at e
    simp [e] at this
  · intro h
    refine ⟨by simp, ?_⟩
    intro i hi
    rw [beq_eq_false_iff_ne]
    intro e
    apply h
    refine ⟨os[i], ?_, e⟩
    rw [List.mem_iff_getElem]
    exact ⟨i, by simp; omega, by simp⟩

theorem take_snoc (os : List Ord) (j : Nat) (hj : j < os.length) : os.take (j + 1) = os.take j ++ [os[j]] := by
  rw [List.take_succ_eq_append_getElem hj]

/-- How many of the first j orders are the first of their id. -/
theorem accs_take_succ (os : List Ord) (j : Nat) (hj : j < os.length) :
    (accs (os.take (j + 1))).length = (accs (os.take j)).length + if fpos os os[j].acc = j then 1 else 0 := by
  rw [take_snoc os j hj, accs_snoc]
  by_cases h : fpos os os[j].acc = j
  · rw [if_pos h, if_neg (by have := (fpos_eq_iff os j hj).1 h; simpa using this)]
    simp
  · rw [if_neg h, if_pos (by
      have hn : ¬ (os[j].acc ∉ accs (os.take j)) := fun h' => h ((fpos_eq_iff os j hj).2 h')
      simpa using hn)]
    simp

theorem fpos_append (p q : List Ord) (a : Int) (h : a ∈ accs p) : fpos (p ++ q) a = fpos p a := by
  unfold fpos
  have := fpos_lt p a h
  unfold fpos at this
  rw [List.findIdx_append, if_pos this]

theorem fpos_new (p : List Ord) (o : Ord) (h : o.acc ∉ accs p) : fpos (p ++ [o]) o.acc = p.length := by
  have hj : p.length < (p ++ [o]).length := by simp
  have := (fpos_eq_iff (p ++ [o]) p.length hj).2 (by simpa using h)
  simpa using this

/-- The ids stand in the order of their first places. -/
theorem fpos_mono (os : List Ord) : (accs os).Pairwise (fun a b => fpos os a < fpos os b) := by
  refine snoc_ind (P := fun os => (accs os).Pairwise (fun a b => fpos os a < fpos os b)) (by simp [accs]) ?_ os
  intro p o ih
  have hold : ∀ a, a ∈ accs p → fpos (p ++ [o]) a = fpos p a := fun a ha => fpos_append p [o] a ha
  have hp : (accs p).Pairwise (fun a b => fpos (p ++ [o]) a < fpos (p ++ [o]) b) :=
    List.pairwise_iff_getElem.2 (fun i j hi hj hij => by
      rw [hold _ (List.getElem_mem hi), hold _ (List.getElem_mem hj)]
      exact List.pairwise_iff_getElem.1 ih i j hi hj hij)
  rw [accs_snoc]
  by_cases hc : (accs p).contains o.acc = true
  · rw [if_pos hc]; exact hp
  · rw [if_neg hc, List.pairwise_append]
    refine ⟨hp, by simp, ?_⟩
    intro a ha b hb
    simp at hb
    subst hb
    have hn : o.acc ∉ accs p := by simpa using hc
    rw [hold a ha, fpos_new p o hn]
    exact fpos_lt p a ha

theorem fpos_step (os : List Ord) (i : Nat) (hi : i + 1 < (accs os).length) : fpos os ((accs os)[i]) < fpos os ((accs os)[i + 1]) :=
  List.pairwise_iff_getElem.1 (fpos_mono os) i (i + 1) (by omega) hi (by omega)

/-! ### a filter, walked from the left -/
theorem only_take_succ (a : Int) (os : List Ord) (j : Nat) (hj : j < os.length) :
    only a (os.take (j + 1)) = only a (os.take j) ++ (if os[j].acc == a then [os[j]] else []) := by
  rw [take_snoc os j hj, only_snoc]

theorem only_split (a : Int) (os : List Ord) (j : Nat) : only a os = only a (os.take j) ++ only a (os.drop j) := by
  unfold only
  rw [← List.filter_append, List.take_append_drop]

/-- At a hit the filter goes on with that very order. -/
theorem only_hit (a : Int) (os : List Ord) (j : Nat) (hj : j < os.length) (h : (os[j].acc == a) = true) :
    (only a os)[(only a (os.take j)).length]? = some os[j] := by
  rw [only_split a os (j + 1), only_take_succ a os j hj, if_pos h]
  rw [List.getElem?_append_left (by simp)]
  simp

theorem only_take_le (a : Int) (os : List Ord) (j : Nat) : (only a (os.take j)).length ≤ (only a os).length := by
  rw [only_split a os j]; simp

/-! ### the split -/
theorem accs_append (p q : List Ord) : accs (p ++ q) = accs p ++ (accs q).filter (fun a => !(accs p).contains a) := by
  refine snoc_ind (P := fun q => accs (p ++ q) = accs p ++ (accs q).filter (fun a => !(accs p).contains a)) (by simp [accs]) ?_ q
  intro q o ih
  rw [← List.append_assoc, accs_snoc, accs_snoc, ih]
  by_cases h1 : o.acc ∈ accs p
  · rw [if_pos (by simp [h1])]
    split
    · rfl
    · rw [List.filter_append]; simp [h1]
  · by_cases h2 : o.acc ∈ accs q
    · rw [if_pos (by simp [h1, h2]), if_pos (by simpa using h2)]
    · rw [if_neg (by simp [h1, h2]), if_neg (by simpa using h2), List.filter_append]
      simp [h1]

theorem only_append (a : Int) (p q : List Ord) : only a (p ++ q) = only a p ++ only a q := by
  unfold only; rw [List.filter_append]

/-- All groups together hold all orders. -/
theorem sum_grp (os : List Ord) : ((grp os).map List.length).sum = os.length := by
  refine snoc_ind (P := fun os => ((grp os).map List.length).sum = os.length) (by simp [grp, accs]) ?_ os
  intro p o ih
  by_cases h : o.acc ∈ accs p
  · obtain ⟨k, hk, e⟩ := List.getElem_of_mem h
    have hk' : (accs p)[k]? = some o.acc := by rw [List.getElem?_eq_getElem hk, e]
    rw [(grp_old p o k hk').2]
    have hkg : k < (grp p).length := by rw [length_grp]; exact hk
    have hg : (grp p)[k] = only o.acc p := by simp [grp, e]
    rw [List.set_eq_take_append_cons_drop, if_pos hkg]
    have hs : (grp p) = (grp p).take k ++ (grp p)[k] :: (grp p).drop (k + 1) := by
      rw [List.getElem_cons_drop, List.take_append_drop]
    rw [hs] at ih
    simp only [List.map_append, List.map_cons, List.sum_append, List.sum_cons, List.length_append, List.length_cons, List.length_nil] at ih ⊢
    rw [hg] at ih
    omega
  · rw [(grp_new p o h).2]
    simp [ih]

end Go.Proofs.Qxb6630191a
