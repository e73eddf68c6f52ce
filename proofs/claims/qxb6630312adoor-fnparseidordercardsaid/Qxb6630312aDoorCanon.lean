import Derived.Test.Qxb6630312aDoorWalks
import Derived.Laws.Cover1
namespace Go.Proofs.Qxb6630312aDoor
open Go.Shelf Go.RowKit
set_option linter.unusedVariables false

theorem size_list (s : ByteArray) : s.data.toList.length = s.size := Array.length_toList

theorem at_list (s : ByteArray) (i : Nat) (h : i < s.size) : s.data.toList[i]'(by rw [size_list]; exact h) = s[i] := by rw [Array.getElem_toList]; rfl

theorem dig_of (s : ByteArray) (h : ∀ j (hj : j < s.size), 48 ≤ (s[j]).toNat ∧ (s[j]).toNat ≤ 57) : Dig s.data.toList := by
  intro c hc
  obtain ⟨j, hj, rfl⟩ := List.mem_iff_getElem.1 hc
  rw [size_list] at hj
  rw [at_list s j hj]
  exact h j hj

theorem not_dig (s : ByteArray) (j : Nat) (hj : j < s.size) (h : ¬ (48 ≤ (s[j]).toNat ∧ (s[j]).toNat ≤ 57)) : ¬ Dig s.data.toList := by
  intro k
  have := k (s.data.toList[j]'(by rw [size_list]; exact hj)) (List.getElem_mem _)
  rw [at_list s j hj] at this
  exact h this

def maxB : ByteArray := ⟨#[57, 50, 50, 51, 51, 55, 50, 48, 51, 54, 56, 53, 52, 55, 55, 53, 56, 48, 55]⟩
theorem maxB_list : maxB.toList = maxT := by rw [Lib.toList_data]; rfl

/-- The digits up to k. -/
def Upto (s : ByteArray) (k : Nat) : Prop := ∀ j (hj : j < s.size), j < k → 48 ≤ (s[j]).toNat ∧ (s[j]).toNat ≤ 57

set_option maxHeartbeats 1600000 in
set_option maxRecDepth 100000 in
theorem canon_any (s : ByteArray) (hlim : s.size ≤ 281474976710656) (w : World) :
    Calls Tryd.prog 7 #[.string s] w fun e w' => e = .returned (.bool (pid s.data.toList).isSome) ∧ w' = w := by
  obtain ⟨l, hl⟩ : ∃ l, Hid (l = s.data.toList) := ⟨_, rfl⟩
  obtain ⟨b, hb⟩ : ∃ b, Hid (b = (pid s.data.toList).isSome) := ⟨_, rfl⟩
  rw [← hb.out]
  by_cases h0 : 0 < s.size
  · obtain ⟨r, hr⟩ := cons_of s h0
    have HR : Hid (s.data.toList = s[0] :: r) := hr
    have d0 : ((s.size : Int) == 0) = false := by rw [beq_eq_false_iff_ne]; omega
    clear hr
    by_cases h19 : (19 : Int) < s.size
    · have hf : b = false := by rw [hb.out, long_none (by rw [size_list]; omega)]; rfl
      rw [hf]
      clear hf
      go_enter Tryd.func7, Tryd.ntmps7
      go_wp2
      go_ret
      exact ⟨rfl, rfl⟩
    by_cases h48 : (s[0]'h0).toNat = 48
    · have hf : b = false := by rw [hb.out, HR.out, pid_head (by omega)]; rfl
      rw [hf]
      clear hf
      go_enter Tryd.func7, Tryd.ntmps7
      go_wp2
      go_ret
      exact ⟨rfl, rfl⟩
    have d48 : (((s[0]'h0).toNat : Int) == 48) = false := by rw [beq_eq_false_iff_ne]; omega
    go_enter Tryd.func7, Tryd.ntmps7
    go_wp2
    go_loop [3] (fun i => ∃ k : Nat, k ≤ s.size ∧ i = .int .i64 k ∧ Hid (Upto s k)) (fun i => s.size - (intOf i).toNat)
    case atStart => exact ⟨0, Nat.zero_le _, rfl, fun j _ hj => absurd hj (Nat.not_lt_zero _)⟩
    case round =>
      obtain ⟨k, hk, rfl, hu⟩ := hrel
      by_cases hlt : k < s.size
      · have hi : (k : Int) < (s.size : Int) := by omega
        by_cases h1 : ((s[k]'hlt).toNat : Int) < 48
        · have hf : b = false := by rw [hb.out, pid_notDig (not_dig s k hlt (by omega))]; rfl
          go_wp2
          go_ret
          exact ⟨rfl, rfl⟩
        by_cases h2 : (57 : Int) < ((s[k]'hlt).toNat : Int)
        · have hf : b = false := by rw [hb.out, pid_notDig (not_dig s k hlt (by omega))]; rfl
          go_wp2
          go_ret
          exact ⟨rfl, rfl⟩
        go_wp2
        go_round
        case rel => exact ⟨k + 1, by omega, by go_num, fun j hj hjk => by
          by_cases e : j = k
          · subst e
            omega
          · exact hu.out j hj (by omega)⟩
        case measure => simp [intOf]; omega
      · have hd : Hid (Dig s.data.toList) := dig_of s fun j hj => hu.out j hj (by omega)
        by_cases e19 : s.size = 19
        · have E19 : Hid (s.size = 19) := e19
          have e19' : ((s.size : Int) == 19) = true := by rw [e19]; rfl
          have hle : ¬ ((k : Int) < (s.size : Int)) := by omega
          clear e19
          have hbb : Hid (b = (Op.bytesLess s.toList [57, 50, 50, 51, 51, 55, 50, 48, 51, 54, 56, 53, 52, 55, 55, 53, 56, 48, 55] || s.toList == [57, 50, 50, 51, 51, 55, 50, 48, 51, 54, 56, 53, 52, 55, 55, 53, 56, 48, 55])) := by
            have h1 := hd.out
            have h2 := size_list s
            rw [E19.out] at h2
            rw [HR.out] at h1 h2
            have h3 := h1.head
            have h4 := nineteen (by omega) h3.2 h1 h2
            rw [← HR.out] at h4
            rw [Lib.toList_data]
            exact hb.out.trans h4
          cases hq1 : Op.bytesLess s.toList [57, 50, 50, 51, 51, 55, 50, 48, 51, 54, 56, 53, 52, 55, 55, 53, 56, 48, 55]
          · cases hq2 : (s.toList == [57, 50, 50, 51, 51, 55, 50, 48, 51, 54, 56, 53, 52, 55, 55, 53, 56, 48, 55])
            · have hf : b = false := by rw [hbb.out, hq1, hq2]; rfl
              go_wp2
              go_ret
              exact ⟨rfl, rfl⟩
            · have hf : b = true := by rw [hbb.out, hq1, hq2]; rfl
              go_wp2
              go_ret
              exact ⟨rfl, rfl⟩
          · have hf : b = true := by rw [hbb.out, hq1]; rfl
            go_wp2
            go_ret
            exact ⟨rfl, rfl⟩
        · have hf : b = true := by
            rw [hb.out]
            have h1 := hd.out
            have h2 := size_list s
            rw [HR.out] at h1 h2 ⊢
            have h3 := h1.head
            exact short_some (by omega) h3.2 h1 (by rw [h2]; omega)
          have e19' : ((s.size : Int) == 19) = false := by rw [beq_eq_false_iff_ne]; omega
          go_wp2
          go_ret
          exact ⟨rfl, rfl⟩
  · have hl0 := nil_of s h0
    have hf : b = false := by rw [hb.out, hl0]; rfl
    have hs0 : s.size = 0 := by omega
    rw [hf]
    clear hl0 hf
    go_enter Tryd.func7, Tryd.ntmps7
    go_wp2
    go_ret
    exact ⟨rfl, rfl⟩
end Go.Proofs.Qxb6630312aDoor
