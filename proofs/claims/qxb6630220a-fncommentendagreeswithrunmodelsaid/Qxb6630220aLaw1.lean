import Derived.Test.Qxb6630220aWalks
namespace Go.Proofs.Qxb6630220a
open Go.RowKit
set_option linter.unusedVariables false

/-- It returned a bool, whichever. -/
def IsB (e : Ending) : Prop := ∃ r, e = .returned (.bool r)
theorem isB_mk (r : Bool) : IsB (.returned (.bool r)) := ⟨r, rfl⟩

set_option maxHeartbeats 800000 in
theorem zzBytes8 (p s t : ByteArray) (i : Int) (w : World) : Calls Try.prog 8 #[.string p, .string s, .string t, .int .i64 i] w fun e w' => IsB e ∧ w' = w := by
  go_enter Try.func8, Try.ntmps8
  go_wp2
  all_goals (go_ret; exact ⟨isB_mk _, rfl⟩)

theorem bget (s : ByteArray) (i : Nat) (h : i < s.size) (c : UInt8) (hc : s.data.toList[i]? = some c) : s[i] = c := by
  have hl : i < s.data.toList.length := by rw [← Lib.size_eq s]; exact h
  rw [List.getElem?_eq_getElem hl] at hc
  simp only [Option.some.injEq] at hc
  rw [← hc]
  rfl

set_option maxHeartbeats 1600000 in
theorem law1 (p s t : ByteArray) (i : Int) (w : World) :
    Calls Try.prog 4 #[.string p, .string s, .string t, .int .i64 i] w fun e w' => e = .returned (.bool true) ∧ w' = w := by
  go_enter Try.func4, Try.ntmps4
  go_wp2_with fail
  refine (zzBytes8 p s t i _).mono ?_
  rintro e w' ⟨⟨r, rfl⟩, rfl⟩
  cases r
  · go_wp2; go_ret; exact ⟨rfl, rfl⟩
  by_cases h1 : (1048576 : Int) < p.size
  · go_wp2; go_ret; exact ⟨rfl, rfl⟩
  by_cases h2 : (1048576 : Int) < s.size
  · go_wp2; go_ret; exact ⟨rfl, rfl⟩
  by_cases h3 : (1048576 : Int) < t.size
  · go_wp2; go_ret; exact ⟨rfl, rfl⟩
  by_cases h4 : (1048576 : Int) < p.size + s.size + t.size
  · go_wp2; go_ret; exact ⟨rfl, rfl⟩
  by_cases h5 : i < 0
  · go_wp2; go_ret; exact ⟨rfl, rfl⟩
  by_cases h6 : 1073741824 < i
  · go_wp2; go_ret; exact ⟨rfl, rfl⟩
  obtain ⟨k, rfl⟩ := Int.eq_ofNat_of_zero_le (show 0 ≤ i by omega)
  go_wp2_with fail
  refine (zz_any s k _ (by omega)).mono ?_
  rintro e w' ⟨rfl, rfl⟩
  have hle := ce_le s.data.toList k
  rw [← Lib.size_eq s] at hle
  obtain ⟨r, hr⟩ : ∃ r, r = ce s.data.toList k := ⟨_, rfl⟩
  rw [← hr] at hle ⊢
  have HR : Hid (r = ce s.data.toList k) := hr
  clear hr
  have hdat : (p ++ s.extract 0 r ++ t).data.toList = p.data.toList ++ s.data.toList.take r ++ t.data.toList := by
    simp
  have hpsz := Lib.size_eq p
  have hssz := Lib.size_eq s
  have htsz := Lib.size_eq t
  have hsize : (p ++ s.extract 0 r ++ t).size ≤ 1048576 := by
    rw [Lib.size_eq, hdat]
    simp
    omega
  have hadd : ((p.size : Int) + (k : Int)) = ((p.size + k : Nat) : Int) := by omega
  have HD : Hid ((p ++ s.extract 0 r ++ t).data.toList = p.data.toList ++ s.data.toList.take r ++ t.data.toList) := hdat
  have HA : Hid (((p.size : Int) + (k : Int)) = ((p.size + k : Nat) : Int)) := hadd
  have HZ : Hid (p.size = p.data.toList.length ∧ s.size = s.data.toList.length) := ⟨hpsz, hssz⟩
  clear hdat hpsz hssz htsz hadd
  by_cases hin : r < s.size
  · have hi := ce_inside p.data.toList s.data.toList t.data.toList k (by rw [← HR.out, ← HZ.out.2]; exact hin)
    rw [← HR.out, ← HZ.out.1] at hi
    obtain ⟨g1, g2, g3, g4⟩ := hi
    have HQ : Hid (ce (p.data.toList ++ s.data.toList.take r ++ t.data.toList) (p.size + k) = p.size + r) := g4
    have e1 : ((s[r - 2]'(by omega)).toNat : Int) = 42 := by rw [bget s (r - 2) (by omega) 42 g2]; rfl
    have e2 : ((s[r - 1]'(by omega)).toNat : Int) = 47 := by rw [bget s (r - 1) (by omega) 47 g3]; rfl
    have d1 : decide ((k : Int) + 2 ≤ (r : Int)) = true := by simp; omega
    clear g4 g2 g3
    go_wp2_with fail
    rw [HA.out]
    refine (zz_any _ _ _ hsize).mono ?_
    rintro e w' ⟨rfl, rfl⟩
    rw [HD.out, HQ.out]
    go_wp2
    go_ret
    exact ⟨by simp, rfl⟩
  · have hre : r = s.size := by omega
    have ho := ce_outside p.data.toList s.data.toList t.data.toList k (by rw [← HR.out, ← HZ.out.2]; exact hin)
    have htk : s.data.toList.take r = s.data.toList := List.take_of_length_le (by rw [← HZ.out.2]; omega)
    obtain ⟨q, hq⟩ : ∃ q, q = ce (p.data.toList ++ s.data.toList.take r ++ t.data.toList) (p.size + k) := ⟨_, rfl⟩
    have hql : p.size + s.size ≤ q := by rw [hq, htk, HZ.out.1, HZ.out.2]; exact ho
    have HQ : Hid (q = ce (p.data.toList ++ s.data.toList.take r ++ t.data.toList) (p.size + k)) := hq
    clear hre ho htk hq
    go_wp2_with fail
    rw [HA.out]
    refine (zz_any _ _ _ hsize).mono ?_
    rintro e w' ⟨rfl, rfl⟩
    rw [HD.out, ← HQ.out]
    have d2 : decide ((p.size : Int) + (s.size : Int) ≤ (q : Int)) = true := by simp; omega
    go_wp2
    go_ret
    exact ⟨rfl, rfl⟩
end Go.Proofs.Qxb6630220a
