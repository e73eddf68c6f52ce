/-
  A ROW OF SLICES, each of which owns a row of orders of its own; the map from ids to places. No walk here.
-/
import Derived.Test.Qxb6630191aToBench
namespace Go.Proofs.Qxb6630191a
open Go.RowKit Go.Maps
set_option linter.unusedVariables false

/-- Two rows of two element types lie in two blocks. -/
theorem ne_block {w : World} {base base' e e' size size' : Nat} {v v' : Value} {n n' : Nat} {xs xs' : List Value} (h : w.ownsRow base e size v n xs) (h' : w.ownsRow base' e' size' v' n' xs') (hne : e ≠ e') :
    v.ownBlock = none ∨ v.ownBlock ≠ v'.ownBlock := by
  rcases h.2 with ⟨rfl, _⟩ | ⟨g, cap, cur, rfl, _, hg, _⟩
  · exact .inl rfl
  · right
    rcases h'.2 with ⟨rfl, _⟩ | ⟨g', cap', cur', rfl, _, hg', _⟩
    · simp [Value.ownBlock]
    · simp only [Value.ownBlock, ne_eq, Option.some.injEq]
      intro eg
      subst eg
      rw [hg] at hg'
      simp at hg'
      exact hne hg'.2

/-- The slices vs, one a group, each owning its group's orders, no two in one row. -/
structure RowsV (B : Nat) (w : World) (va : Value) (vs : List Value) (gs : List (List Ord)) : Prop where
  own : w.ownsRow B 25 1 va gs.length vs
  each : ∀ (i : Nat) (g : List Ord) (v : Value), gs[i]? = some g → vs[i]? = some v → w.ownsRow B 31 6 v g.length (flat g)
  apart : ∀ (i j : Nat) (u v : Value), i ≠ j → vs[i]? = some u → vs[j]? = some v → u.ownBlock = none ∨ u.ownBlock ≠ v.ownBlock

theorem RowsV.len {B : Nat} {w : World} {va : Value} {vs : List Value} {gs : List (List Ord)} (h : RowsV B w va vs gs) : vs.length = gs.length := by
  have := h.own.1; omega

theorem rows_start (B : Nat) (w : World) : RowsV B w (.slice none 0 0) [] [] :=
  ⟨World.ownsRow_nil _ _ _ _, fun i g v h => by simp at h, fun i j u v _ h => by simp at h⟩

/-- New blocks, and writes to a block that is none of theirs. -/
theorem RowsV.kept {B : Nat} {w w' : World} {va : Value} {vs : List Value} {gs : List (List Ord)} (h : RowsV B w va vs gs) (hg : w.grownBy w' none) : RowsV B w' va vs gs :=
  ⟨h.own.kept hg (by cases va.ownBlock <;> simp), fun i g v hi hv => (h.each i g v hi hv).kept hg (by cases v.ownBlock <;> simp), h.apart⟩

/-- A map's block was written. -/
theorem RowsV.keptMap {B bm : Nat} {w w' : World} {va : Value} {vs : List Value} {gs : List (List Ord)} (h : RowsV B w va vs gs) (hg : w.grownBy w' (some bm)) {es : Array MapEntry} {cl : Nat} (hm : w.heap[bm]? = some (.map es cl)) : RowsV B w' va vs gs := by
  have key : ∀ {e size n : Nat} {v : Value} {xs : List Value}, w.ownsRow B e size v n xs → v.ownBlock = none ∨ v.ownBlock ≠ some bm := by
    intro e size n v xs hv
    rcases hv.2 with ⟨rfl, _⟩ | ⟨g, cap, cur, rfl, _, hgg, _⟩
    · exact .inl rfl
    · right
      simp only [Value.ownBlock, ne_eq, Option.some.injEq]
      intro eg
      subst eg
      rw [hgg] at hm
      cases hm
  exact ⟨h.own.kept hg (key h.own), fun i g v hi hv => (h.each i g v hi hv).kept hg (key (h.each i g v hi hv)), h.apart⟩

/-- 'accounts = append(accounts, nil)'. -/
theorem RowsV.pushNil {B : Nat} {w w2 w3 : World} {va va' : Value} {vs : List Value} {gs : List (List Ord)} (h : RowsV B w va vs gs) (h2 : w.grownBy w2 none)
    (h3 : w3.ownsRow B 25 1 va' (gs.length + 1) (vs ++ [.slice none 0 0])) (hg : w2.grownBy w3 va.ownBlock) : RowsV B w3 va' (vs ++ [.slice none 0 0]) (gs ++ [[]]) := by
  have hl := h.len
  have h' := h.kept h2
  refine ⟨by simpa using h3, ?_, ?_⟩
  · intro i g v hi hv
    rcases Nat.lt_or_ge i gs.length with hlt | hge
    · rw [List.getElem?_append_left hlt] at hi
      rw [List.getElem?_append_left (by omega)] at hv
      have ho := h'.each i g v hi hv
      exact ho.kept hg (ne_block ho h'.own (by decide))
    · rw [List.getElem?_append_right hge] at hi
      rw [List.getElem?_append_right (by omega)] at hv
      have e0 : i - gs.length = 0 := by
        rcases Nat.eq_zero_or_pos (i - gs.length) with e | e
        · exact e
        · rw [List.getElem?_eq_none (by simp; omega)] at hi; cases hi
      rw [e0] at hi
      rw [show i - vs.length = 0 by omega] at hv
      simp at hi hv
      subst hi
      subst hv
      exact World.ownsRow_nil _ _ _ _
  · intro i j u v hij hu hv
    rcases Nat.lt_or_ge i vs.length with hi | hi
    · rw [List.getElem?_append_left hi] at hu
      rcases Nat.lt_or_ge j vs.length with hj | hj
      · rw [List.getElem?_append_left hj] at hv
        exact h.apart i j u v hij hu hv
      · rw [List.getElem?_append_right hj] at hv
        have : v = .slice none 0 0 := by
          have := List.mem_of_getElem? hv
          simpa using this
        subst this
        cases hb : u.ownBlock with
        | none => exact .inl rfl
        | some b => right; simp [Value.ownBlock]
    · rw [List.getElem?_append_right hi] at hu
      have : u = .slice none 0 0 := by
        have := List.mem_of_getElem? hu
        simpa using this
      subst this
      exact .inl rfl

/-- 'accounts[k] = append(accounts[k], o)'. -/
theorem RowsV.push {B k ab ac gb cap : Nat} {w w2 w3 : World} {vs : List Value} {gs : List (List Ord)} {g : List Ord} {o : Ord} {v : Value}
    (h : RowsV B w (.slice (some ⟨ab, 0, none⟩) gs.length ac) vs gs) (hk : gs[k]? = some g) (hv : vs[k]? = some v) (h2 : w.grownBy w2 none)
    (h3 : w3.ownsRow B 31 6 (.slice (some ⟨gb, 0, none⟩) (g.length + 1) cap) (g.length + 1) (flat g ++ ordCells o)) (hg : w2.grownBy w3 v.ownBlock) (hat : v.ownBlock = some gb ∨ gb = w2.heap.size) :
    RowsV B (w3.setCell ⟨ab, k, none⟩ (.slice (some ⟨gb, 0, none⟩) (g.length + 1) cap)) (.slice (some ⟨ab, 0, none⟩) gs.length ac) (vs.set k (.slice (some ⟨gb, 0, none⟩) (g.length + 1) cap)) (gs.set k (g ++ [o])) := by
  have hl := h.len
  have h' := h.kept h2
  have hvo := h'.each k g v hk hv
  have hkl : k < gs.length := by
    rcases Nat.lt_or_ge k gs.length with e | e
    · exact e
    · rw [List.getElem?_eq_none e] at hk; cases hk
  -- the row of slices, in w3
  have hown3 := h'.own.kept hg (by
    rcases ne_block h'.own hvo (by decide) with e | e
    · exact .inl e
    · exact .inr e)
  obtain ⟨hst, hgs⟩ := hown3.stored k (.slice (some ⟨gb, 0, none⟩) (g.length + 1) cap)
  have hne3 : (Value.slice (some ⟨gb, 0, none⟩) (g.length + 1) cap).ownBlock = none ∨ (Value.slice (some ⟨gb, 0, none⟩) (g.length + 1) cap).ownBlock ≠ some ab := ne_block h3 hown3 (by decide)
  refine ⟨by simpa using hst, ?_, ?_⟩
  · intro i g' v' hi hv'
    by_cases hik : k = i
    · subst hik
      rw [List.getElem?_set_self hkl] at hi
      rw [List.getElem?_set_self (by omega)] at hv'
      simp only [Option.some.injEq] at hi hv'
      subst hi
      subst hv'
      have := h3.kept hgs hne3
      simpa [flat] using this
    · rw [List.getElem?_set_ne hik] at hi hv'
      have ho := h'.each i g' v' hi hv'
      have ho3 := ho.kept hg (h.apart i k v' v (fun e => hik e.symm) hv' hv)
      exact ho3.kept hgs (ne_block ho3 hown3 (by decide))
  · -- no two in one row
    have hfar : ∀ (j : Nat) (u : Value), j ≠ k → vs[j]? = some u → u.ownBlock = none ∨ u.ownBlock ≠ some gb := by
      intro j u hjk hu
      rcases hat with e | e
      · rw [← e]; exact h.apart j k u v hjk hu hv
      · have hjl : j < gs.length := by
          rcases Nat.lt_or_ge j vs.length with e | e
          · omega
          · rw [List.getElem?_eq_none e] at hu; cases hu
        have ho := h'.each j gs[j] u (List.getElem?_eq_getElem hjl) hu
        cases hb : u.ownBlock with
        | none => exact .inl rfl
        | some b =>
          right
          have := ho.lt b hb
          simp only [ne_eq, Option.some.injEq]
          omega
    intro i j u u' hij hu hu'
    by_cases hik : k = i
    · subst hik
      rw [List.getElem?_set_self (by omega)] at hu
      rw [List.getElem?_set_ne hij] at hu'
      simp only [Option.some.injEq] at hu
      subst hu
      rcases hfar j u' (fun e => hij e.symm) hu' with e | e
      · right; rw [e]; simp [Value.ownBlock]
      · right; intro e'; exact e (by rw [← e']; rfl)
    · rw [List.getElem?_set_ne hik] at hu
      by_cases hjk : k = j
      · subst hjk
        rw [List.getElem?_set_self (by omega)] at hu'
        simp only [Option.some.injEq] at hu'
        subst hu'
        exact hfar i u hij hu
      · rw [List.getElem?_set_ne hjk] at hu'
        exact h.apart i j u u' hij hu hu'

/-! ### the map -/
/-- The map D tells for each id of the list its place. -/
def MInv (D : DataW Unit) (l : List Int) : Prop :=
  ∀ a, Maps.has D (.int .i64 a) = l.contains a ∧ ∀ i : Nat, l[i]? = some a → D.atKey (.int .i64 a) (.lit (.int .i64 0)) = .lit (.int .i64 i)

theorem minv_start : MInv (.map []) [] := by
  intro a
  exact ⟨rfl, fun i h => by simp at h⟩

theorem MInv.put {D : DataW Unit} {l : List Int} (h : MInv D l) (hm : IsMap D) {a0 : Int} (hn : a0 ∉ l) : MInv (D.put (.int .i64 a0) (.lit (.int .i64 l.length))) (l ++ [a0]) := by
  intro a
  by_cases e : a = a0
  · subst e
    refine ⟨by rw [has_put_same (k := .int .i64 a) hm trivial]; simp, fun i hi => ?_⟩
    rw [atKey_put_same (k := .int .i64 a) hm trivial]
    have : i = l.length := by
      rcases Nat.lt_or_ge i l.length with hlt | hge
      · rw [List.getElem?_append_left hlt] at hi
        exact absurd (List.mem_of_getElem? hi) hn
      · rcases Nat.eq_or_lt_of_le hge with e | e
        · exact e.symm
        · rw [List.getElem?_eq_none (by simp; omega)] at hi; cases hi
    rw [this]
  · have hne : Lit.int .i64 a ≠ Lit.int .i64 a0 := by simpa using e
    refine ⟨by rw [has_put_other hne, (h a).1]; simp [e], fun i hi => ?_⟩
    rw [atKey_put_other hne]
    refine (h a).2 i ?_
    rcases Nat.lt_or_ge i l.length with hlt | hge
    · rwa [List.getElem?_append_left hlt] at hi
    · rw [List.getElem?_append_right hge] at hi
      have := List.mem_of_getElem? hi
      simp at this
      exact absurd this e

end Go.Proofs.Qxb6630191a
