import Derived.Test.Qxb6630220aRunModel
namespace Go.Proofs.Qxb6630220a
open Go.RowKit
set_option linter.unusedVariables false

set_option maxHeartbeats 400000 in
theorem zzBytes5 (s : ByteArray) (i : Int) (w : World) : Calls Try.prog 5 #[.string s, .int .i64 i] w fun e w' => IsB e ∧ w' = w := by
  go_enter Try.func5, Try.ntmps5
  go_wp2
  all_goals (go_ret; exact ⟨isB_mk _, rfl⟩)

set_option maxHeartbeats 400000 in
theorem runModel_past (s : ByteArray) (i : Int) (w : World) (hs : s.size ≤ 1048576) (hi : (s.size : Int) ≤ i) :
    Calls Try.prog 7 #[.string s, .int .i64 i] w fun e w' => e = .returned (.int .i64 s.size) ∧ w' = w := by
  go_enter Try.func7, Try.ntmps7
  go_wp2
  go_ret
  exact ⟨rfl, rfl⟩

set_option maxHeartbeats 400000 in
theorem zz_past (s : ByteArray) (i : Int) (w : World) (hs : s.size ≤ 1048576) (hi : (s.size : Int) ≤ i) :
    Calls Try.prog 6 #[.string s, .int .i64 i] w fun e w' => e = .returned (.int .i64 s.size) ∧ w' = w := by
  go_enter Try.func6, Try.ntmps6
  go_wp2_with fail
  refine (commentEnd_past s i _ hs hi).mono ?_
  rintro e w' ⟨rfl, rfl⟩
  go_wp2
  go_ret
  exact ⟨rfl, rfl⟩

set_option maxHeartbeats 800000 in
theorem law2 (s : ByteArray) (i : Int) (w : World) :
    Calls Try.prog 3 #[.string s, .int .i64 i] w fun e w' => e = .returned (.bool true) ∧ ∃ n, w' = w.drewN n := by
  go_enter Try.func3, Try.ntmps3
  go_wp2_with fail
  refine (zzBytes5 s i _).mono ?_
  rintro e w' ⟨⟨r, rfl⟩, rfl⟩
  cases r
  · go_wp2; go_ret; exact ⟨rfl, 0, rfl⟩
  by_cases h1 : (1048576 : Int) < s.size
  · go_wp2; go_ret; exact ⟨rfl, 0, rfl⟩
  by_cases h2 : i < 0
  · go_wp2; go_ret; exact ⟨rfl, 0, rfl⟩
  by_cases h3 : (s.size : Int) ≤ i
  · go_wp2_with fail
    refine (zz_past s i _ (by omega) h3).mono ?_
    rintro e w' ⟨rfl, rfl⟩
    go_wp2_with fail
    refine (runModel_past s i _ (by omega) h3).mono ?_
    rintro e w' ⟨rfl, rfl⟩
    go_wp2
    go_ret
    exact ⟨by simp, 0, rfl⟩
  · obtain ⟨k, rfl⟩ := Int.eq_ofNat_of_zero_le (show 0 ≤ i by omega)
    go_wp2_with fail
    refine (zz_any s k _ (by omega)).mono ?_
    rintro e w' ⟨rfl, rfl⟩
    go_wp2_with fail
    refine (runModel_any s k _ (by omega) (by omega)).mono ?_
    rintro e w'' ⟨rfl, n, rfl⟩
    go_wp2
    go_ret
    exact ⟨by simp, n, rfl⟩
end Go.Proofs.Qxb6630220a
