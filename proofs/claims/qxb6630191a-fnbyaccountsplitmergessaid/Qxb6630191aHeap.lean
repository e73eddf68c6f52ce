/-
  LEMMAS ON MEMORY for byAccount and toBench: rows of orders, six cells each; a row of slices, each with a row of its own.
-/
import Derived.Test.Qxb6630191aReads
import Derived.Maps.AppendAt
import Derived.Maps.OwnSet
import Derived.Deep.MidRow
import Derived.Deep.AppendLies
namespace Go.Proofs.Qxb6630191a
open Go.RowKit
set_option linter.unusedVariables false

def flat (os : List Ord) : List Value := os.flatMap ordCells

theorem flat_length (os : List Ord) : (flat os).length = os.length * 6 := by
  induction os with
  | nil => rfl
  | cons o l ih => simp [flat, ordCells] at ih ⊢; omega

theorem flat_append (a b : List Ord) : flat (a ++ b) = flat a ++ flat b := by simp [flat]

theorem flat_get (os : List Ord) (i j : Nat) (h : i < os.length) (hj : j < 6) : (flat os)[i * 6 + j]? = (ordCells os[i])[j]? := by
  have hs : os = os.take i ++ os[i] :: os.drop (i + 1) := by rw [List.getElem_cons_drop, List.take_append_drop]
  have hl : (flat (os.take i)).length = i * 6 := by rw [flat_length, List.length_take]; congr 1; omega
  have hf : flat os = flat (os.take i) ++ (ordCells os[i] ++ flat (os.drop (i + 1))) := by
    refine (congrArg flat hs).trans ?_
    rw [flat_append]
    rfl
  rw [hf, List.getElem?_append_right (by omega), hl, Nat.add_sub_cancel_left, List.getElem?_append_left (by simpa [ordCells] using hj)]

/-- A row that the call owns holds the orders. -/
theorem at_of_owns {w : World} {base g cap : Nat} {os : List Ord} {n : Nat} (hn : n = os.length) (h : w.ownsRow base 31 6 (.slice (some ⟨g, 0, none⟩) n cap) n (flat os)) : At w g 0 os := by
  subst hn
  have key : ∀ i (hi : i < os.length) j, j < 6 → w.cell? ⟨g, 0 + i * 6 + j, none⟩ = (ordCells os[i])[j]? := by
    intro i hi j hj
    rw [Nat.zero_add, h.cellAt (i * 6 + j) (by omega), flat_get os i j hi hj]
  refine ⟨?_, ?_, ?_, ?_, ?_, ?_⟩
  all_goals intro i hi
  · exact key i hi 0 (by omega)
  · exact key i hi 1 (by omega)
  · exact key i hi 2 (by omega)
  · exact key i hi 3 (by omega)
  · exact key i hi 4 (by omega)
  · exact key i hi 5 (by omega)

/-- Cells laid into a list from a place on. -/
def setList : List Value → Nat → List Value → List Value
  | xs, _, [] => xs
  | xs, o, v :: r => setList (xs.set o v) (o + 1) r

theorem setList_length : ∀ (vs xs : List Value) (o : Nat), (setList xs o vs).length = xs.length
  | [], _, _ => rfl
  | v :: r, xs, o => by rw [setList, setList_length r]; simp

theorem setList_eq : ∀ (vs xs : List Value) (o : Nat), o + vs.length ≤ xs.length → setList xs o vs = xs.take o ++ vs ++ xs.drop (o + vs.length)
  | [], xs, o, _ => by simp [setList]
  | v :: r, xs, o, h => by
    simp only [List.length_cons] at h
    rw [setList, setList_eq r (xs.set o v) (o + 1) (by simp; omega)]
    rw [List.set_eq_take_append_cons_drop, if_pos (by omega)]
    have e1 : (xs.take o ++ v :: xs.drop (o + 1)).take (o + 1) = xs.take o ++ [v] := by
      rw [List.take_append]
      simp only [List.length_take, Nat.min_eq_left (show o ≤ xs.length by omega), Nat.add_sub_cancel_left, List.take_succ_cons, List.take_zero, List.take_take]
      rw [Nat.min_eq_right (by omega)]
    have e2 : (xs.take o ++ v :: xs.drop (o + 1)).drop (o + 1 + r.length) = xs.drop (o + (r.length + 1)) := by
      rw [List.drop_append, List.drop_of_length_le (by simp; omega)]
      simp only [List.length_take, Nat.min_eq_left (show o ≤ xs.length by omega), List.nil_append]
      rw [show o + 1 + r.length - o = r.length + 1 by omega, List.drop_succ_cons, List.drop_drop]
      congr 1
      omega
    rw [e1, e2]
    simp

theorem owns_setCells {base e size g cap n : Nat} : ∀ (vs : List Value) (o : Nat) (w : World) (xs : List Value), w.ownsRow base e size (.slice (some ⟨g, 0, none⟩) n cap) n xs →
    (w.setCells g o vs).ownsRow base e size (.slice (some ⟨g, 0, none⟩) n cap) n (setList xs o vs) ∧ w.grownBy (w.setCells g o vs) (some g)
  | [], o, w, xs, h => ⟨h, ⟨rfl, rfl, rfl, Nat.le_refl _, fun _ _ _ => rfl⟩⟩
  | v :: r, o, w, xs, h => by
    obtain ⟨h1, g1⟩ := h.stored o v
    obtain ⟨h2, g2⟩ := owns_setCells r (o + 1) _ _ h1
    refine ⟨h2, ⟨g2.os.trans g1.os, g2.tape.trans g1.tape, g2.output.trans g1.output, Nat.le_trans g1.size g2.size, fun k hk hne => ?_⟩⟩
    exact (g2.block k (Nat.lt_of_lt_of_le hk g1.size) hne).trans (g1.block k hk hne)

/-- In a row of n orders that the call owns every order's cells are there. -/
theorem there_of_owns {w : World} {base e g cap n : Nat} {xs : List Value} (h : w.ownsRow base e 6 (.slice (some ⟨g, 0, none⟩) n cap) n xs) {k : Nat} (hk : k < n) : w.there g (k * 6) 6 := by
  intro j hj
  have hl := h.1
  refine ⟨?_, h.frozenAt _⟩
  rw [h.cellAt (k * 6 + j) (by omega), List.getElem?_eq_getElem (by omega)]
  rfl

/-- What a round of toBench does to the row. -/
theorem row_step {xs : List Value} {os : List Ord} {k : Nat} (hk : k < os.length) (hl : xs.length = os.length * 6) (ht : xs.take (k * 6) = flat (os.take k)) :
    (setList xs (k * 6) (ordCells os[k])).take ((k + 1) * 6) = flat (os.take (k + 1)) := by
  rw [setList_eq _ _ _ (by simp [ordCells]; omega), ht, take_snoc os k hk, flat_append]
  have hfl : (flat (os.take k)).length = k * 6 := by rw [flat_length, List.length_take]; congr 1; omega
  rw [List.append_assoc, List.take_append, List.take_of_length_le (by omega), hfl]
  congr 1
  rw [show (k + 1) * 6 - k * 6 = 6 by omega, List.take_append, List.take_of_length_le (by simp [ordCells])]
  simp [ordCells, flat]

end Go.Proofs.Qxb6630191a
