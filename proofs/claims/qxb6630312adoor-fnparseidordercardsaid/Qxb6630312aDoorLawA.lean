import Derived.Test.Qxb6630312aDoorCanon
import Derived.Laws.IdiomStrings
import Derived.Laws.Concat
namespace Go.Proofs.Qxb6630312aDoor
open Go.Shelf Go.RowKit
set_option linter.unusedVariables false

/-- It returned a bool, whichever. -/
def IsB (e : Ending) : Prop := ∃ r, e = .returned (.bool r)
theorem isB_mk (r : Bool) : IsB (.returned (.bool r)) := ⟨r, rfl⟩

set_option maxHeartbeats 800000 in
theorem zzBytes5 (s : ByteArray) (c : Int) (w : World) : Calls Tryd.prog 5 #[.string s, .int .u8 c] w fun e w' => IsB e ∧ w' = w := by
  go_enter Tryd.func5, Tryd.ntmps5
  go_wp2
  all_goals (go_ret; exact ⟨isB_mk _, rfl⟩)

set_option maxHeartbeats 800000 in
theorem zzBytes8 (a b : ByteArray) (w : World) : Calls Tryd.prog 8 #[.string a, .string b] w fun e w' => IsB e ∧ w' = w := by
  go_enter Tryd.func8, Tryd.ntmps8
  go_wp2
  all_goals (go_ret; exact ⟨isB_mk _, rfl⟩)

theorem conv1 (c : UInt8) (w : World) : (convert 23 9 (.slice (some ⟨w.heap.size, 0, none⟩) 1 1)).run Tryd.prog (w.alloc (.cells #[.int .u8 c.toNat] 5)) = .ok (.string ⟨#[c]⟩) (w.alloc (.cells #[.int .u8 c.toNat] 5)) := by
  refine run_convert_bytes_back (w.alloc (.cells #[.int .u8 c.toNat] 5)) 23 9 5 ⟨w.heap.size, 0, none⟩ 1 [c] Tryd.underlying23 Tryd.underlying5 Tryd.underlying9 ?_
  intro j hj
  have hj0 : j = 0 := by simp at hj; omega
  subst hj0
  simp [Addr.add]

theorem idTuple_eq {o : Option Nat} {a : Nat} {k : Bool} (h1 : o.getD 0 = a) (h2 : o.isSome = k) : idTuple o = .tuple #[.int .i64 (a : Int), .bool k] := by subst h1 h2; rfl

theorem zero_of {o : Option Nat} {a : Nat} (h : o.getD 0 = a) (k : o.isSome = false) : a = 0 := by
  cases o with
  | none => exact h.symm
  | some x => cases k

theorem some_of {o : Option Nat} {a : Nat} (h : o.getD 0 = a) (k : o.isSome = true) : o = some a := by
  cases o with
  | none => cases k
  | some x => rw [← h]; rfl

set_option maxHeartbeats 8000000 in
set_option maxRecDepth 100000 in
theorem lawA (s : ByteArray) (c : UInt8) (w : World) (hV : Vars w) :
    Calls Tryd.prog 3 #[.string s, .int .u8 c.toNat] w fun e w' => e = .returned (.bool true) ∧ Below w.heap.size w w' := by
  go_enter Tryd.func3, Tryd.ntmps3
  go_wp2_with fail
  refine (zzBytes5 s c.toNat _).mono ?_
  rintro e w' ⟨⟨rr, rfl⟩, rfl⟩
  cases rr
  · go_wp2; go_ret; exact ⟨rfl, Below.refl _ _⟩
  by_cases c0 : (1048576 : Int) ≤ s.size
  · go_wp2; go_ret; exact ⟨rfl, Below.refl _ _⟩
  have d0 : decide ((1048576 : Int) ≤ (s.size : Int)) = false := by simp; omega
  have hconv := conv1 c w'
  obtain ⟨t, ht⟩ : ∃ t, s ++ (⟨#[c]⟩ : ByteArray) = t := ⟨_, rfl⟩
  have HT : Hid (t.data.toList = s.data.toList ++ [c]) := by
    rw [← ht]
    show _ = _
    simp
  have tsz : t.size = s.size + 1 := by
    have := congrArg List.length HT.out
    rw [size_list, List.length_append, size_list] at this
    exact this
  have TSZ : Hid (t.size = s.size + 1) := tsz
  have tlim : t.size ≤ 281474976710656 := by omega
  have slim : s.size ≤ 281474976710656 := by omega
  have hsum : ¬ (s.size + 1 > 9223372036854775807) := by omega
  clear tsz
  obtain ⟨a, ha⟩ : ∃ a, Hid ((pid s.data.toList).getD 0 = a) := ⟨_, rfl⟩
  obtain ⟨ka, hka⟩ : ∃ a, Hid ((pid s.data.toList).isSome = a) := ⟨_, rfl⟩
  obtain ⟨b, hb⟩ : ∃ a, Hid ((pid t.data.toList).getD 0 = a) := ⟨_, rfl⟩
  obtain ⟨kb, hkb⟩ : ∃ a, Hid ((pid t.data.toList).isSome = a) := ⟨_, rfl⟩
  have bel0 : Below w'.heap.size w' (w'.alloc (.cells #[.int .u8 c.toNat] 5)) := (Below.refl _ _).alloc (Nat.le_refl _) _
  go_wp2_with fail
  refine (parseID_any s slim _ (hV.below bel0 hV.size)).mono ?_
  rintro e w1 ⟨rfl, hb1⟩
  rw [idTuple_eq ha.out hka.out]
  have bel1 : Below w'.heap.size w' w1 := bel0.trans (hb1.mono bel0.size)
  clear hb1
  go_wp2_with fail
  refine (parseID_any t tlim _ (hV.below bel1 hV.size)).mono ?_
  rintro e w2 ⟨rfl, hb2⟩
  rw [idTuple_eq hb.out hkb.out]
  have bel2 : Below w'.heap.size w' w2 := bel1.trans (hb2.mono bel1.size)
  clear hb2
  go_wp2_with fail
  refine (canon_any s slim _).mono ?_
  rintro e w3 ⟨rfl, hw3⟩
  rw [hka.out, hw3]
  clear hw3
  have f1 : (ka != ka) = false := by simp
  have f2 : (kb != kb) = false := by simp
  go_wp2_with fail
  refine (canon_any t tlim _).mono ?_
  rintro e w3 ⟨rfl, hw3⟩
  rw [hkb.out, hw3]
  clear hw3 ht hconv bel0 bel1
  clear hsum tlim slim d0 c0 f1 f2
  have BEL : Hid (Below w'.heap.size w' w2) := bel2
  clear bel2 hV
  cases kb
  · have hb0 : b = 0 := zero_of hb.out hkb.out
    subst hb0
    clear hb hkb HT TSZ
    cases ka
    · have ha0 : a = 0 := zero_of ha.out hka.out
      subst ha0
      clear ha hka
      go_wp2
      go_ret
      exact ⟨rfl, BEL.out⟩
    · clear ha hka
      go_wp2
      go_ret
      exact ⟨rfl, BEL.out⟩
  · have hpt : pid t.data.toList = some b := some_of hb.out hkb.out
    rw [HT.out] at hpt
    obtain ⟨g1, g2, g3, g4, g5⟩ := law_append _ _ _ hpt
    obtain ⟨d, hd⟩ : ∃ d, Hid (d = c.toNat - 48) := ⟨_, rfl⟩
    rw [← hd.out] at g4 g5
    have hu8 : IntKind.u8.wrap ((c.toNat : Int) - 48) = (d : Int) := by
      have := hd.out
      rw [show (c.toNat : Int) - 48 = (d : Int) by omega]
      exact wraps_u8 _ (by omega) (by omega)
    have G4 : Hid (s.data.toList = [] → b = d) := g4
    have G5 : Hid (s.data.toList ≠ [] → ∃ a, pid s.data.toList = some a ∧ b = 10 * a + d) := g5
    have G3 : Hid (b < 9223372036854775808) := g3
    have hd9 : d ≤ 9 := by have := hd.out; omega
    clear g1 g2 g3 g4 g5 hpt hb hkb HT TSZ
    cases ka
    · have hs0 : s.data.toList = [] := by
        rcases Classical.em (s.data.toList = []) with e | e
        · exact e
        · obtain ⟨x, hx, _⟩ := G5.out e
          have := hka.out
          rw [hx] at this
          cases this
      have ha0 : a = 0 := zero_of ha.out hka.out
      subst ha0
      have hbd : b = d := G4.out hs0
      subst hbd
      have hemp : s.toList.isEmpty = true := by rw [Lib.toList_data, hs0]; rfl
      clear ha hka G3 G4 G5 hs0 hd
      go_wp2
      go_ret
      exact ⟨rfl, BEL.out⟩
    · have hs0 : ¬ s.data.toList = [] := by
        intro e
        have := hka.out
        rw [e] at this
        cases this
      obtain ⟨x, hx, hbx⟩ := G5.out hs0
      have hxa : x = a := by have := ha.out; rw [hx] at this; exact this
      subst hxa
      have hemp : s.toList.isEmpty = false := by
        rw [Lib.toList_data]
        cases e : s.data.toList with
        | nil => exact absurd e hs0
        | cons _ _ => rfl
      have h10 : wrap64 (10 * (x : Int)) = 10 * (x : Int) := by have := G3.out; unfold wrap64; omega
      have h11 : wrap64 (10 * (x : Int) + (d : Int)) = (b : Int) := by have := G3.out; unfold wrap64; omega
      have HB : Hid (b = 10 * x + d) := hbx
      clear ha hka G3 G4 G5 hs0 hd hbx hx
      go_wp2
      go_ret
      exact ⟨rfl, BEL.out⟩
end Go.Proofs.Qxb6630312aDoor
