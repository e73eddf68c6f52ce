import Derived.Test.Qxb6630191aLaw2
namespace Go.Proofs.Qxb6630191a
open Go.RowKit Go.Maps
set_option linter.unusedVariables false

set_option maxHeartbeats 1600000 in
set_option maxRecDepth 100000 in
theorem law2_nil (kk : Int) (w : World) :
    Calls Try.prog 4 #[(.slice none 0 0), .int .i64 kk] w fun e w' => e = .returned (.bool true) ∧ Below w.heap.size w w' := by
  go_enter Try.func4, Try.ntmps4
  go_wp2_with fail
  refine (zzBytes11_none none 0 kk [] _ (by simp) rfl).mono ?_
  rintro e w' ⟨⟨r, rfl⟩, rfl⟩
  cases r
  · go_wp2
    go_ret
    exact ⟨rfl, Below.refl _ _⟩
  go_wp2_with fail
  refine (over6_none none 0 _ [] _ (by simp) rfl).mono ?_
  rintro e w' ⟨⟨r, rfl⟩, rfl⟩
  cases r
  case true =>
    go_wp2
    go_ret
    exact ⟨rfl, Below.refl _ _⟩
  by_cases hk1 : kk < 0
  · go_wp2
    go_ret
    exact ⟨rfl, Below.refl _ _⟩
  by_cases hk2 : 0 < kk
  · go_wp2
    go_ret
    exact ⟨rfl, Below.refl _ _⟩
  obtain rfl : kk = 0 := by omega
  clear hk1 hk2
  go_wp2_with fail
  refine (toBench_nil _).mono ?_
  rintro e w1 ⟨rfl, rfl⟩
  have hb1 : Below w1.heap.size w1 w1 := Below.refl _ _
  go_wp2_with fail
  refine (zzByAccount_empty _ _ _).mono ?_
  rintro e w2 ⟨rfl, hb2⟩
  have hbw2 : Below w1.heap.size w1 w2 := hb1.trans (hb2.mono hb1.size)
  clear hb1 hb2
  go_wp2_with fail
  refine (zzByAccount_empty _ _ _).mono ?_
  rintro e w3 ⟨rfl, hb3⟩
  have hbw3 : Below w1.heap.size w1 w3 := hbw2.trans (hb3.mono hbw2.size)
  clear hbw2 hb3
  go_wp2_with fail
  refine (zzByAccount_empty _ _ _).mono ?_
  rintro e w4 ⟨rfl, hb4⟩
  have hbw4 : Below w1.heap.size w1 w4 := hbw3.trans (hb4.mono hbw3.size)
  clear hbw3 hb4
  go_wp2_with fail
  refine (countAll_any none 0 [] _ (by simp) (by simp [total]) (.inl rfl)).mono ?_
  rintro e w5 ⟨rfl, rfl⟩
  rw [show total [] = 0 from rfl]
  go_wp2_with fail
  refine (countAll_any none 0 [] _ (by simp) (by simp [total]) (.inl rfl)).mono ?_
  rintro e w5 ⟨rfl, rfl⟩
  rw [show total [] = 0 from rfl]
  go_wp2
  refine wp_loop_rounds 1 ?_
  rw [rounds_succ]
  go_wp2
  refine wp_loop_rounds 1 ?_
  rw [rounds_succ]
  go_wp2
  go_ret
  exact ⟨rfl, hbw4⟩

set_option maxHeartbeats 1600000 in
set_option maxRecDepth 100000 in
theorem law2_zero (ad : Addr) (cap : Nat) (kk : Int) (w : World) :
    Calls Try.prog 4 #[(.slice (some ad) 0 cap), .int .i64 kk] w fun e w' => e = .returned (.bool true) ∧ Below w.heap.size w w' := by
  go_enter Try.func4, Try.ntmps4
  go_wp2_with fail
  refine (zzBytes11_none (some ad) cap kk [] _ (by simp) rfl).mono ?_
  rintro e w' ⟨⟨r, rfl⟩, rfl⟩
  cases r
  · go_wp2
    go_ret
    exact ⟨rfl, Below.refl _ _⟩
  go_wp2_with fail
  refine (over6_none (some ad) cap _ [] _ (by simp) rfl).mono ?_
  rintro e w' ⟨⟨r, rfl⟩, rfl⟩
  cases r
  case true =>
    go_wp2
    go_ret
    exact ⟨rfl, Below.refl _ _⟩
  by_cases hk1 : kk < 0
  · go_wp2
    go_ret
    exact ⟨rfl, Below.refl _ _⟩
  by_cases hk2 : 0 < kk
  · go_wp2
    go_ret
    exact ⟨rfl, Below.refl _ _⟩
  obtain rfl : kk = 0 := by omega
  clear hk1 hk2
  go_wp2_with fail
  refine (toBench_empty ad cap _).mono ?_
  rintro e w1 ⟨rfl, hb1⟩
  go_wp2_with fail
  refine (zzByAccount_empty _ _ _).mono ?_
  rintro e w2 ⟨rfl, hb2⟩
  have hbw2 : Below w'.heap.size w' w2 := hb1.trans (hb2.mono hb1.size)
  clear hb1 hb2
  go_wp2_with fail
  refine (zzByAccount_empty _ _ _).mono ?_
  rintro e w3 ⟨rfl, hb3⟩
  have hbw3 : Below w'.heap.size w' w3 := hbw2.trans (hb3.mono hbw2.size)
  clear hbw2 hb3
  go_wp2_with fail
  refine (zzByAccount_empty _ _ _).mono ?_
  rintro e w4 ⟨rfl, hb4⟩
  have hbw4 : Below w'.heap.size w' w4 := hbw3.trans (hb4.mono hbw3.size)
  clear hbw3 hb4
  go_wp2_with fail
  refine (countAll_any none 0 [] _ (by simp) (by simp [total]) (.inl rfl)).mono ?_
  rintro e w5 ⟨rfl, rfl⟩
  rw [show total [] = 0 from rfl]
  go_wp2_with fail
  refine (countAll_any none 0 [] _ (by simp) (by simp [total]) (.inl rfl)).mono ?_
  rintro e w5 ⟨rfl, rfl⟩
  rw [show total [] = 0 from rfl]
  go_wp2
  refine wp_loop_rounds 1 ?_
  rw [rounds_succ]
  go_wp2
  refine wp_loop_rounds 1 ?_
  rw [rounds_succ]
  go_wp2
  go_ret
  exact ⟨rfl, hbw4⟩

end Go.Proofs.Qxb6630191a
