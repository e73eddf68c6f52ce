import Derived.Test.Qxb6630312aDoorLawA
namespace Go.Proofs.Qxb6630312aDoor
open Go.Shelf Go.RowKit
set_option linter.unusedVariables false

set_option maxHeartbeats 8000000 in
set_option maxRecDepth 100000 in
theorem lawO (a b : ByteArray) (w : World) (hV : Vars w) :
    Calls Tryd.prog 4 #[.string a, .string b] w fun e w' => e = .returned (.bool true) ∧ Below w.heap.size w w' := by
  go_enter Tryd.func4, Tryd.ntmps4
  go_wp2_with fail
  refine (zzBytes8 a b _).mono ?_
  rintro e w' ⟨⟨rr, rfl⟩, rfl⟩
  cases rr
  · go_wp2; go_ret; exact ⟨rfl, Below.refl _ _⟩
  by_cases c0 : (1048576 : Int) < a.size
  · have d0 : decide ((1048576 : Int) < (a.size : Int)) = true := by simp; omega
    go_wp2; go_ret; exact ⟨rfl, Below.refl _ _⟩
  have d0 : decide ((1048576 : Int) < (a.size : Int)) = false := by simp; omega
  by_cases c1 : (1048576 : Int) < b.size
  · have d1 : decide ((1048576 : Int) < (b.size : Int)) = true := by simp; omega
    go_wp2; go_ret; exact ⟨rfl, Below.refl _ _⟩
  have d1 : decide ((1048576 : Int) < (b.size : Int)) = false := by simp; omega
  by_cases c2 : (1048576 : Int) < (a.size : Int) + (b.size : Int)
  · have d2 : decide ((1048576 : Int) < (a.size : Int) + (b.size : Int)) = true := by simp; omega
    go_wp2; go_ret; exact ⟨rfl, Below.refl _ _⟩
  have d2 : decide ((1048576 : Int) < (a.size : Int) + (b.size : Int)) = false := by simp; omega
  have alim : a.size ≤ 281474976710656 := by omega
  have blim : b.size ≤ 281474976710656 := by omega
  obtain ⟨x, hx⟩ : ∃ x, Hid ((pid a.data.toList).getD 0 = x) := ⟨_, rfl⟩
  obtain ⟨kx, hkx⟩ : ∃ x, Hid ((pid a.data.toList).isSome = x) := ⟨_, rfl⟩
  obtain ⟨y, hy⟩ : ∃ x, Hid ((pid b.data.toList).getD 0 = x) := ⟨_, rfl⟩
  obtain ⟨ky, hky⟩ : ∃ x, Hid ((pid b.data.toList).isSome = x) := ⟨_, rfl⟩
  go_wp2_with fail
  refine (parseID_any a alim _ hV).mono ?_
  rintro e w1 ⟨rfl, bel1⟩
  rw [idTuple_eq hx.out hkx.out]
  go_wp2_with fail
  refine (parseID_any b blim _ (hV.below bel1 hV.size)).mono ?_
  rintro e w2 ⟨rfl, hb2⟩
  rw [idTuple_eq hy.out hky.out]
  have BEL : Hid (Below w'.heap.size w' w2) := bel1.trans (hb2.mono bel1.size)
  clear hb2 bel1
  have f1 : (kx != kx) = false := by simp
  have f2 : (ky != ky) = false := by simp
  go_wp2_with fail
  refine (canon_any a alim _).mono ?_
  rintro e w3 ⟨rfl, hw3⟩
  rw [hkx.out, hw3]
  clear hw3
  go_wp2_with fail
  refine (canon_any b blim _).mono ?_
  rintro e w3 ⟨rfl, hw3⟩
  rw [hky.out, hw3]
  clear hw3 hV
  clear alim blim d0 d1 d2 c0 c1 c2 f1 f2
  cases kx
  · have h0 : x = 0 := zero_of hx.out hkx.out
    subst h0
    clear hx hkx
    cases ky
    · have h0 : y = 0 := zero_of hy.out hky.out
      subst h0
      clear hy hky
      go_wp2
      go_ret
      exact ⟨rfl, BEL.out⟩
    · clear hy hky
      go_wp2
      go_ret
      exact ⟨rfl, BEL.out⟩
  · cases ky
    · have h0 : y = 0 := zero_of hy.out hky.out
      subst h0
      clear hy hky hx hkx
      go_wp2
      go_ret
      exact ⟨rfl, BEL.out⟩
    · obtain ⟨g1, g2, g3, g4, g5, g6⟩ := law_order _ _ _ _ (some_of hx.out hkx.out) (some_of hy.out hky.out)
      have hsl : decide ((x : Int) < (y : Int)) = slex a b := by
        unfold slex
        rw [size_list, size_list] at g5
        by_cases e : a.size = b.size
        · rw [if_pos e, Lib.toList_data, Lib.toList_data]
          cases hb : Op.bytesLess a.data.toList b.data.toList with
          | true => rw [decide_eq_true_eq]; have := g5.2 (.inr ⟨e, hb⟩); omega
          | false =>
            rw [decide_eq_false_iff_not]
            intro h
            rcases g5.1 (by omega) with k | k
            · omega
            · rw [hb] at k; cases k.2
        · rw [if_neg e]
          rcases Nat.lt_or_ge a.size b.size with k | k
          · have := g5.2 (.inl k)
            rw [decide_eq_true (show (x : Int) < (y : Int) by omega), decide_eq_true k]
          · rw [decide_eq_false (show ¬ a.size < b.size by omega), decide_eq_false_iff_not]
            intro h
            rcases g5.1 (by omega) with k' | k' <;> omega
      have heq : ((x : Int) == (y : Int)) = (a.toList == b.toList) := by
        rw [Lib.toList_data, Lib.toList_data]
        rcases Classical.em (a.data.toList = b.data.toList) with e | e
        · have := g6.2 e
          rw [this, e]
          simp
        · have : ¬ x = y := fun h => e (g6.1 h)
          rw [beq_eq_false_iff_ne.2 e, beq_eq_false_iff_ne]
          omega
      have HSL : Hid (decide ((x : Int) < (y : Int)) = slex a b) := hsl
      have HEQ : Hid (((x : Int) == (y : Int)) = (a.toList == b.toList)) := heq
      have p1 : decide ((x : Int) ≤ 0) = false := by simp; omega
      have p2 : decide ((y : Int) ≤ 0) = false := by simp; omega
      have q1 : 0 < x := g1
      have q2 : 0 < y := g2
      clear g1 g2 g3 g4 g5 g6 hx hkx hy hky hsl heq
      by_cases hlt : x < y
      · have e1 : Hid (slex a b = true) := by show _ = _; rw [← HSL.out, decide_eq_true_eq]; omega
        have e2 : (a.toList == b.toList) = false := by rw [← HEQ.out, beq_eq_false_iff_ne]; omega
        have n1 : (x : Int) < (y : Int) := by omega
        have n2 : ((x : Int) == (y : Int)) = false := by rw [beq_eq_false_iff_ne]; omega
        go_wp2_with fail
        refine (shortlex_any a b _).mono ?_
        rintro e w3 ⟨rfl, hw3⟩
        rw [e1.out, hw3]
        go_wp2
        go_ret
        exact ⟨rfl, BEL.out⟩
      · have e1 : Hid (slex a b = false) := by show _ = _; rw [← HSL.out, decide_eq_false_iff_not]; omega
        have n1 : ¬ (x : Int) < (y : Int) := by omega
        by_cases hxy : x = y
        · have e2 : (a.toList == b.toList) = true := by rw [← HEQ.out, hxy]; simp
          have n2 : ((x : Int) == (y : Int)) = true := by rw [hxy]; simp
          have HXY : Hid (x = y) := hxy
          clear hxy
          go_wp2_with fail
          refine (shortlex_any a b _).mono ?_
          rintro e w3 ⟨rfl, hw3⟩
          rw [e1.out, hw3]
          go_wp2
          go_ret
          exact ⟨rfl, BEL.out⟩
        · have e2 : (a.toList == b.toList) = false := by rw [← HEQ.out, beq_eq_false_iff_ne]; omega
          have n2 : ((x : Int) == (y : Int)) = false := by rw [beq_eq_false_iff_ne]; omega
          go_wp2_with fail
          refine (shortlex_any a b _).mono ?_
          rintro e w3 ⟨rfl, hw3⟩
          rw [e1.out, hw3]
          go_wp2
          go_ret
          exact ⟨rfl, BEL.out⟩
end Go.Proofs.Qxb6630312aDoor
