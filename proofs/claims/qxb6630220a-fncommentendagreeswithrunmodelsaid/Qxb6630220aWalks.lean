import Derived.Test.Qxb6630220aProg
import Derived.Test.Qxb6630220aPlain
import Derived.WalkKit
import Derived.WalkSpells
import Derived.WalkLawsBesides
import Derived.Lib.Strings
import Derived.Deep.QuietTactic
import Derived.BigQuiet
import Derived.KernelRfl
namespace Go.Proofs.Qxb6630220a
open Go.RowKit
set_option linter.unusedVariables false

theorem ret_int {k : IntKind} {a b : Int} (h : a = b) : Ending.returned (.int k a) = .returned (.int k b) := by rw [h]
theorem ret_bool {a b : Bool} (h : a = b) : Ending.returned (.bool a) = .returned (.bool b) := by rw [h]

/-- The text begins with these two bytes. -/
def pre2 (a b : UInt8) : List UInt8 → Bool
  | x :: y :: _ => x == a && y == b
  | _ => false

theorem pre2_short (a b : UInt8) (l : List UInt8) (h : l.length < 2) : pre2 a b l = false := by
  match l, h with
  | [], _ => rfl
  | [_], _ => rfl
  | _ :: _ :: _, h => simp at h; omega

theorem pre2_take (a b : UInt8) (l : List UInt8) (h : 2 ≤ l.length) : (l.take 2 == [a, b]) = pre2 a b l := by
  match l, h with
  | [], h => simp at h
  | [_], h => simp at h
  | x :: y :: t, _ => simp [pre2]

set_option maxHeartbeats 400000 in
theorem hp_any (t : ByteArray) (a b : UInt8) (w : World) (ht : t.size ≤ 1048576) :
    Calls Try.prog 11 #[.string t, .string ⟨#[a, b]⟩] w fun e w' => e = .returned (.bool (pre2 a b t.data.toList)) ∧ w' = w := by
  have hsz := Lib.size_eq t
  by_cases h2 : 2 ≤ t.size
  · have hd : decide ((2 : Int) ≤ (t.size : Int)) = true := by simp; omega
    have hfin : ((t.extract 0 2).toList == [a, b]) = pre2 a b t.data.toList := by
      rw [Lib.extract_toList, List.drop_zero]
      exact pre2_take a b _ (by omega)
    have HF : Hid (((t.extract 0 2).toList == [a, b]) = pre2 a b t.data.toList) := hfin
    clear hfin hsz
    go_enter Try.func11, Try.ntmps11
    go_wp2
    go_ret
    exact ⟨ret_bool HF.out, rfl⟩
  · have hd : decide ((2 : Int) ≤ (t.size : Int)) = false := by simp; omega
    have hfin : pre2 a b t.data.toList = false := pre2_short a b _ (by omega)
    have HF : Hid (pre2 a b t.data.toList = false) := hfin
    clear hfin hsz
    go_enter Try.func11, Try.ntmps11
    go_wp2
    go_ret
    exact ⟨ret_bool HF.out.symm, rfl⟩

theorem pre2_true {a b : UInt8} {l : List UInt8} {j : Nat} (h : pre2 a b (l.drop j) = true) : l.drop j = a :: b :: l.drop (j + 2) := by
  match hl : l.drop j with
  | [] => rw [hl] at h; simp [pre2] at h
  | [_] => rw [hl] at h; simp [pre2] at h
  | x :: y :: t =>
    rw [hl] at h
    simp [pre2] at h
    obtain ⟨rfl, rfl⟩ := h
    have : (l.drop j).drop 2 = t := by rw [hl]; rfl
    rw [List.drop_drop] at this
    rw [this]

theorem cend_open {l : List UInt8} {j : Nat} (d : Int) (h : pre2 47 42 (l.drop j) = true) : cend (l.drop j) j d = cend (l.drop (j + 2)) (j + 2) (d + 1) := by
  rw [pre2_true h, cend_two, if_pos ⟨rfl, rfl⟩]

theorem cend_close {l : List UInt8} {j : Nat} (d : Int) (h : pre2 42 47 (l.drop j) = true) : cend (l.drop j) j d = if d = 1 then some (j + 2) else cend (l.drop (j + 2)) (j + 2) (d - 1) := by
  rw [pre2_true h, cend_two, if_neg (by decide), if_pos ⟨rfl, rfl⟩]

theorem cend_pass {l : List UInt8} {j : Nat} (d : Int) (hj : j < l.length) (h1 : pre2 47 42 (l.drop j) = false) (h2 : pre2 42 47 (l.drop j) = false) : cend (l.drop j) j d = cend (l.drop (j + 1)) (j + 1) d := by
  have e : l.drop j = l[j] :: l.drop (j + 1) := List.drop_eq_getElem_cons hj
  rw [e] at h1 h2 ⊢
  match hl : l.drop (j + 1) with
  | [] => simp [cend]
  | y :: t =>
    rw [hl] at h1 h2
    simp [pre2] at h1 h2
    rw [cend_two, if_neg (by rintro ⟨a, b⟩; exact h1 a b), if_neg (by rintro ⟨a, b⟩; exact h2 a b)]

theorem pre2_len {a b : UInt8} {l : List UInt8} {j : Nat} (h : pre2 a b (l.drop j) = true) : j + 2 ≤ l.length := by
  have := congrArg List.length (pre2_true h)
  simp at this
  omega

theorem ext_drop (s : ByteArray) (j : Nat) : (s.extract j s.size).data.toList = s.data.toList.drop j := by
  rw [Lib.extract_data, List.take_of_length_le (by rw [List.length_drop, ← Lib.size_eq s]; exact Nat.le_refl _)]

/-- So many rounds lead from the start to place j at depth d. -/
def Run (l : List UInt8) (i j : Nat) (d : Int) : Prop := cend (l.drop j) j d = cend (l.drop i) i 0 ∧ j ≤ l.length ∧ -(j : Int) ≤ d ∧ d ≤ j

set_option maxHeartbeats 800000 in
theorem commentEnd_any (s : ByteArray) (i : Nat) (w : World) (hs : s.size ≤ 1048576) (hi : i < s.size) :
    Calls Try.prog 9 #[.string s, .int .i64 i] w fun e w' => e = .returned (.int .i64 (ce s.data.toList i)) ∧ w' = w := by
  have hsz := Lib.size_eq s
  have HZ : Hid (s.size = s.data.toList.length) := hsz
  clear hsz
  go_enter Try.func9, Try.ntmps9
  go_wp2
  go_loop [5, 6] (fun dd jj => ∃ (j : Nat) (d : Int), dd = .int .i64 d ∧ jj = .int .i64 j ∧ Run s.data.toList i j d) (fun _ jj => s.size - (intOf jj).toNat)
  case atStart => exact ⟨i, 0, rfl, rfl, rfl, by rw [← HZ.out]; omega, by omega, by omega⟩
  case round =>
    obtain ⟨j, d, rfl, rfl, hrun⟩ := hrel
    obtain ⟨hr1, hr2, hr3, hr4⟩ := hrun
    rw [← HZ.out] at hr2
    have HR : Hid (cend (s.data.toList.drop j) j d = cend (s.data.toList.drop i) i 0) := hr1
    clear hr1
    by_cases hlt : j < s.size
    · cases h1 : pre2 47 42 (s.data.toList.drop j)
      · cases h2 : pre2 42 47 (s.data.toList.drop j)
        · go_wp2_with fail
          refine (hp_any _ 47 42 _ (by simp; omega)).mono ?_
          rintro e w' ⟨rfl, rfl⟩
          rw [ext_drop, h1]
          go_wp2_with fail
          refine (hp_any _ 42 47 _ (by simp; omega)).mono ?_
          rintro e w' ⟨rfl, rfl⟩
          rw [ext_drop, h2]
          go_wp2
          go_round
          case rel => exact ⟨j + 1, d, rfl, by go_num, by rw [← cend_pass d (by rw [← HZ.out]; exact hlt) h1 h2]; exact HR.out, by rw [← HZ.out]; omega, by omega, by omega⟩
          case measure => simp [intOf]; omega
        · have hl2 := pre2_len h2
          rw [← HZ.out] at hl2
          have hcl := cend_close d h2
          by_cases hd : d = 1
          · subst hd
            go_wp2_with fail
            refine (hp_any _ 47 42 _ (by simp; omega)).mono ?_
            rintro e w' ⟨rfl, rfl⟩
            rw [ext_drop, h1]
            go_wp2_with fail
            refine (hp_any _ 42 47 _ (by simp; omega)).mono ?_
            rintro e w' ⟨rfl, rfl⟩
            rw [ext_drop, h2]
            go_wp2
            go_ret
            refine ⟨ret_int ?_, rfl⟩
            unfold ce
            rw [← HR.out, hcl]
            simp
          · have hne : (d - 1 == 0) = false := by rw [beq_eq_false_iff_ne]; omega
            rw [if_neg hd] at hcl
            have HC : Hid (cend (s.data.toList.drop j) j d = cend (s.data.toList.drop (j + 2)) (j + 2) (d - 1)) := hcl
            clear hcl
            go_wp2_with fail
            refine (hp_any _ 47 42 _ (by simp; omega)).mono ?_
            rintro e w' ⟨rfl, rfl⟩
            rw [ext_drop, h1]
            go_wp2_with fail
            refine (hp_any _ 42 47 _ (by simp; omega)).mono ?_
            rintro e w' ⟨rfl, rfl⟩
            rw [ext_drop, h2]
            go_wp2
            go_round
            case rel => exact ⟨j + 2, d - 1, by go_num, by go_num, by rw [← HC.out]; exact HR.out, by rw [← HZ.out]; omega, by omega, by omega⟩
            case measure => simp [intOf]; omega
      · have hl2 := pre2_len h1
        rw [← HZ.out] at hl2
        have HC : Hid (cend (s.data.toList.drop j) j d = cend (s.data.toList.drop (j + 2)) (j + 2) (d + 1)) := cend_open d h1
        go_wp2_with fail
        refine (hp_any _ 47 42 _ (by simp; omega)).mono ?_
        rintro e w' ⟨rfl, rfl⟩
        rw [ext_drop, h1]
        go_wp2
        go_round
        case rel => exact ⟨j + 2, d + 1, by go_num, by go_num, by rw [← HC.out]; exact HR.out, by rw [← HZ.out]; omega, by omega, by omega⟩
        case measure => simp [intOf]; omega
    · have hje : j = s.size := by omega
      have hfin : ce s.data.toList i = s.size := by
        unfold ce
        rw [← HR.out, List.drop_of_length_le (by rw [← HZ.out]; omega), HZ.out]
        rfl
      have HF : Hid (ce s.data.toList i = s.size) := hfin
      clear hfin hje
      go_wp2
      go_ret
      exact ⟨ret_int (by rw [HF.out]), rfl⟩

set_option maxHeartbeats 800000 in
theorem commentEnd_past (s : ByteArray) (i : Int) (w : World) (hs : s.size ≤ 1048576) (hi : (s.size : Int) ≤ i) :
    Calls Try.prog 9 #[.string s, .int .i64 i] w fun e w' => e = .returned (.int .i64 s.size) ∧ w' = w := by
  go_enter Try.func9, Try.ntmps9
  go_wp2
  refine wp_loop_rounds 1 ?_
  rw [rounds_succ]
  go_wp2
  go_ret
  exact ⟨rfl, rfl⟩

theorem ce_past (l : List UInt8) (i : Nat) (h : l.length ≤ i) : ce l i = l.length := by
  unfold ce
  rw [List.drop_of_length_le h]
  rfl

set_option maxHeartbeats 800000 in
/-- ZZcommentEnd, at every start that is not below 0. -/
theorem zz_any (s : ByteArray) (i : Nat) (w : World) (hs : s.size ≤ 1048576) :
    Calls Try.prog 6 #[.string s, .int .i64 i] w fun e w' => e = .returned (.int .i64 (ce s.data.toList i)) ∧ w' = w := by
  by_cases hi : i < s.size
  · go_enter Try.func6, Try.ntmps6
    go_wp2_with fail
    refine (commentEnd_any s i _ hs hi).mono ?_
    rintro e w' ⟨rfl, rfl⟩
    go_wp2
    go_ret
    exact ⟨rfl, rfl⟩
  · have hce : ce s.data.toList i = s.size := by rw [Lib.size_eq s]; exact ce_past _ _ (by rw [← Lib.size_eq s]; omega)
    rw [hce]
    clear hce
    go_enter Try.func6, Try.ntmps6
    go_wp2_with fail
    refine (commentEnd_past s i _ hs (by omega)).mono ?_
    rintro e w' ⟨rfl, rfl⟩
    go_wp2
    go_ret
    exact ⟨rfl, rfl⟩
end Go.Proofs.Qxb6630220a
