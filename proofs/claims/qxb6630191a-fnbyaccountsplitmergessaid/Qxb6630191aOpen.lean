import Derived.Test.Qxb6630191aRows
import Derived.Test.Qxb6630191aReads
import Derived.WalkKit
import Derived.ProofKit
import Derived.OpenShut
import Derived.ShutString
import Derived.ChangeOld
import Derived.Below
import Derived.Deep.Slices
namespace Go.Proofs.Qxb6630191a
open Go.ChangeShapes Go.WideShapes Go.ChangeAt Go.RowKit Go.Deep
set_option linter.unusedVariables false

theorem own : ownKnob Try.prog.godebug = none := by kernel_rfl
theorem laidOut : laidOutB Try.prog = true := by kernel_rfl
theorem Try.cells37 : Try.prog.cellsOf 37 = 6 := by kernel_rfl
theorem Try.cells2 : Try.prog.cellsOf 2 = 1 := by kernel_rfl
theorem Try.cells9 : Try.prog.cellsOf 9 = 1 := by kernel_rfl

theorem open_order {H : Type} {enc : TypeId × Value → H} {w : World} {base : Nat} {spare : Nat → Bool} {held : Bool} {fuel : Nat} {cs : List Value} {x : DataW H × List MemPlace}
    (h : DataW.trod enc Try.prog w base spare held fuel 37 cs = some x) : ∃ o : Ord, cs = ordCells o ∧ (Lit.int .i64 o.acc).wf = true := by
  obtain ⟨xs, n, _, _, hl, hxl, hf⟩ := DataW.trod_struct Try.underlying37 h
  rw [Try.cells37] at hl
  match cs, hl with
  | [c0, c1, c2, c3, c4, c5], _ =>
    simp at hxl
    have g : ∀ i (hi : i < xs.length), xs[i]? = some xs[i] := fun i hi => List.getElem?_eq_getElem hi
    have f0 := hf 0 _ rfl
    have f1 := hf 1 _ rfl
    have f2 := hf 2 _ rfl
    have f3 := hf 3 _ rfl
    have f4 := hf 4 _ rfl
    have f5 := hf 5 _ rfl
    rw [g 0 (by omega)] at f0
    rw [g 1 (by omega)] at f1
    rw [g 2 (by omega)] at f2
    rw [g 3 (by omega)] at f3
    rw [g 4 (by omega)] at f4
    rw [g 5 (by omega)] at f5
    obtain ⟨n0, e0, _, _⟩ := DataW.trod_int Try.underlying2 f0
    obtain ⟨n1, e1, _, w1⟩ := DataW.trod_int Try.underlying2 f1
    obtain ⟨n2, e2, _, _⟩ := DataW.trod_string Try.underlying9 f2
    obtain ⟨n3, e3, _, _⟩ := DataW.trod_string Try.underlying9 f3
    obtain ⟨n4, e4, _, _⟩ := DataW.trod_int Try.underlying2 f4
    obtain ⟨n5, e5, _, _⟩ := DataW.trod_string Try.underlying9 f5
    simp [Try.cells2] at e0 e1 e4
    simp [Try.cells9] at e2 e3 e5
    subst e0 e1 e2 e3 e4 e5
    exact ⟨⟨n0, n1, n2, n3, n4, n5⟩, rfl, w1⟩

theorem spot_none {w : World} {ad : Addr} {v : Value} (h : w.cell? (ad.add 0) = some v) : ∃ b off, ad = ⟨b, off, none⟩ := by
  obtain ⟨b, off, spot⟩ := ad
  have hspot : spot = none := by
    have := World.cell?_spot h
    cases spot with
    | none => rfl
    | some s => simp [Addr.add] at this
  subst hspot
  exact ⟨b, off, rfl⟩

theorem add_none (b off j : Nat) : (⟨b, off, none⟩ : Addr).add j = ⟨b, off + j, none⟩ := by unfold Addr.add; split <;> simp_all

/-- WHAT THE WALK IS TOLD OF THE ORDERS THAT CAME IN. -/
theorem open_orders {H : Type} {enc : TypeId × Value → H} {w : World} {base : Nat} {spare : Nat → Bool} {held : Bool} {fuel : Nat} {a0 : Option Addr} {len cap : Nat} {x : DataW H × List MemPlace}
    (h : DataW.trod enc Try.prog w base spare held fuel 22 [.slice a0 len cap] = some x) :
    (a0 = none ∧ len = 0 ∧ cap = 0) ∨ ∃ ad, a0 = some ad ∧ (len = 0 ∨ ∃ (os : List Ord) (b off : Nat), len = os.length ∧ 0 < os.length ∧ os.length ≤ maxLen ∧ ad = ⟨b, off, none⟩ ∧ At w b off os ∧ ∀ o ∈ os, (Lit.int .i64 o.acc).wf = true) := by
  rcases open_slice Try.underlying22 h with ⟨hcs, _⟩ | ⟨ad, l, c, m, n, D, Pl, hcs, _, hl, hm, hmm, _, hel⟩
  · simp at hcs
    obtain ⟨rfl, rfl, rfl⟩ := hcs
    exact .inl ⟨rfl, rfl, rfl⟩
  · simp at hcs
    obtain ⟨rfl, rfl, rfl⟩ := hcs
    right
    refine ⟨ad, rfl, ?_⟩
    by_cases h0 : len = 0
    · exact .inl h0
    right
    have hlm : len ≤ m := by rw [hmm]; split <;> omega
    have key : ∀ i, i < len → ∃ o : Ord, (∀ j, j < 6 → w.cell? (ad.add (i * 6 + j)) = (ordCells o)[j]?) ∧ (Lit.int .i64 o.acc).wf = true := by
      intro i hi
      obtain ⟨cs', h1, h2⟩ := hel i (by omega)
      rw [Try.cells37] at h1
      obtain ⟨o, rfl, hw⟩ := open_order h2
      obtain ⟨_, _, h3⟩ := World.cells?_some h1
      exact ⟨o, fun j hj => by rw [← add_add]; exact h3 j hj, hw⟩
    obtain ⟨o0, k0, _⟩ := key 0 (by omega)
    obtain ⟨b, off, rfl⟩ := spot_none (show w.cell? (ad.add 0) = some (.int .i64 o0.id) from k0 0 (by omega))
    have inh : Inhabited Ord := ⟨o0⟩
    obtain ⟨f, hf⟩ := choose_lt (α := Ord) key
    refine ⟨(List.range len).map f, b, off, by simp, by simp; omega, by simp; omega, rfl, ?_, ?_⟩
    · have kk : ∀ i (hi : i < ((List.range len).map f).length) j, j < 6 → w.cell? ⟨b, off + i * 6 + j, none⟩ = (ordCells ((List.range len).map f)[i])[j]? := by
        intro i hi j hj
        have := (hf i (by simpa using hi)).1 j hj
        rw [add_none] at this
        rw [Nat.add_assoc, this]
        simp
      refine ⟨?_, ?_, ?_, ?_, ?_, ?_⟩
      all_goals intro i hi
      · exact kk i hi 0 (by omega)
      · exact kk i hi 1 (by omega)
      · exact kk i hi 2 (by omega)
      · exact kk i hi 3 (by omega)
      · exact kk i hi 4 (by omega)
      · exact kk i hi 5 (by omega)
    · intro o ho
      simp at ho
      obtain ⟨i, hi, rfl⟩ := ho
      exact (hf i hi).2
end Go.Proofs.Qxb6630191a
