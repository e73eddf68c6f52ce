import Derived.Test.Qxb6630220aLaw1
import Derived.Deep.DeepCutAuto
import Derived.Deep.LoopGhost
namespace Go.Proofs.Qxb6630220a
open Go.RowKit
set_option linter.unusedVariables false

def mkB (c : Int) : Bool := c == 47 || c == 42

theorem mkB_toNat (x : UInt8) : mkB (x.toNat : Int) = mark x := by
  unfold mkB mark
  have h : ∀ k : UInt8, ((x.toNat : Int) == (k.toNat : Int)) = (x == k) := by
    intro k
    rw [Bool.eq_iff_iff]
    simp
    constructor
    · intro e; exact UInt8.toNat_inj.1 (by omega)
    · rintro rfl; rfl
  have h47 := h 47
  have h42 := h 42
  have e47 : ((47 : UInt8).toNat : Int) = 47 := rfl
  have e42 : ((42 : UInt8).toNat : Int) = 42 := rfl
  rw [e47] at h47
  rw [e42] at h42
  rw [h47, h42]

set_option maxHeartbeats 400000 in
theorem isMark_any (c : Int) (w : World) : Calls Try.prog 10 #[.int .u8 c] w fun e w' => e = .returned (.bool (mkB c)) ∧ w' = w := by
  by_cases h1 : c = 47
  · subst h1
    go_enter Try.func10, Try.ntmps10
    go_wp2
    go_ret
    exact ⟨rfl, rfl⟩
  · have h1' : (c == 47) = false := by rw [beq_eq_false_iff_ne]; exact h1
    have hm : mkB c = (c == 42) := by unfold mkB; rw [h1']; rfl
    have HM : Hid (mkB c = (c == 42)) := hm
    clear hm
    go_enter Try.func10, Try.ntmps10
    go_wp2
    go_ret
    exact ⟨ret_bool (by rw [HM.out]), rfl⟩

/-- How long the run is that begins at place a. -/
def runLen (l : List UInt8) (a : Nat) : Nat :=
  match l.drop a with
  | [] => 0
  | x :: t => if mark x then alt x t + 1 else 1

/-- b lies inside the run that begins at a: what is still to come, and how long all is. -/
structure InRun (l : List UInt8) (a b : Nat) : Prop where
  lo : a + 1 ≤ b
  hi : b ≤ l.length
  eq : ∀ y, l[b - 1]? = some y → a + runLen l a = b + alt y (l.drop b)

theorem inRun_start {l : List UInt8} {a : Nat} {x : UInt8} (h : l[a]? = some x) (hm : mark x = true) : InRun l a (a + 1) := by
  have ha : a < l.length := by
    rcases Nat.lt_or_ge a l.length with e | e
    · exact e
    · rw [List.getElem?_eq_none e] at h; cases h
  refine ⟨Nat.le_refl _, ha, ?_⟩
  intro y hy
  rw [Nat.add_sub_cancel, h] at hy
  simp at hy
  subst hy
  have e : l.drop a = x :: l.drop (a + 1) := by
    rw [List.drop_eq_getElem_cons ha]
    rw [List.getElem?_eq_getElem ha] at h
    simp at h
    rw [h]
  unfold runLen
  rw [e]
  simp [hm]
  omega

theorem inRun_next {l : List UInt8} {a b : Nat} (h : InRun l a b) {x y : UInt8} (hx : l[b - 1]? = some x) (hy : l[b]? = some y) (hm : mark y = true) (hne : y ≠ x) : InRun l a (b + 1) := by
  have hb : b < l.length := by
    rcases Nat.lt_or_ge b l.length with e | e
    · exact e
    · rw [List.getElem?_eq_none e] at hy; cases hy
  have hlo := h.lo
  refine ⟨by omega, hb, ?_⟩
  intro z hz
  rw [Nat.add_sub_cancel, hy] at hz
  simp at hz
  subst hz
  have e : l.drop b = y :: l.drop (b + 1) := by
    rw [List.drop_eq_getElem_cons hb]
    rw [List.getElem?_eq_getElem hb] at hy
    simp at hy
    rw [hy]
  have := h.eq x hx
  rw [e, alt, if_pos ⟨hm, hne⟩] at this
  omega

theorem inRun_stop {l : List UInt8} {a b : Nat} (h : InRun l a b) {x y : UInt8} (hx : l[b - 1]? = some x) (hy : l[b]? = some y) (hn : ¬ (mark y = true ∧ y ≠ x)) : b = a + runLen l a := by
  have hb : b < l.length := by
    rcases Nat.lt_or_ge b l.length with e | e
    · exact e
    · rw [List.getElem?_eq_none e] at hy; cases hy
  have e : l.drop b = y :: l.drop (b + 1) := by
    rw [List.drop_eq_getElem_cons hb]
    rw [List.getElem?_eq_getElem hb] at hy
    simp at hy
    rw [hy]
  have := h.eq x hx
  rw [e, alt, if_neg hn] at this
  omega

theorem inRun_end {l : List UInt8} {a b : Nat} (h : InRun l a b) {x : UInt8} (hx : l[b - 1]? = some x) (hb : b = l.length) : b = a + runLen l a := by
  have := h.eq x hx
  rw [List.drop_of_length_le (by omega)] at this
  simp [alt] at this
  omega

theorem runLen_other {l : List UInt8} {a : Nat} {x : UInt8} (h : l[a]? = some x) (hm : mark x = false) : runLen l a = 1 := by
  have ha : a < l.length := by
    rcases Nat.lt_or_ge a l.length with e | e
    · exact e
    · rw [List.getElem?_eq_none e] at h; cases h
  unfold runLen
  rw [List.drop_eq_getElem_cons ha]
  rw [List.getElem?_eq_getElem ha] at h
  simp at h
  rw [h]
  simp [hm]

theorem drop_cons {l : List UInt8} {a : Nat} {x : UInt8} (h : l[a]? = some x) : l.drop a = x :: l.drop (a + 1) := by
  have ha : a < l.length := by
    rcases Nat.lt_or_ge a l.length with e | e
    · exact e
    · rw [List.getElem?_eq_none e] at h; cases h
  rw [List.drop_eq_getElem_cons ha]
  rw [List.getElem?_eq_getElem ha] at h
  simp at h
  rw [h]

theorem run_slash {l : List UInt8} {a : Nat} (h : l[a]? = some 47) (d : Int) : cend (l.drop a) a d = cend (l.drop (a + runLen l a)) (a + runLen l a) (d + (runLen l a / 2 : Nat)) := by
  have e := drop_cons h
  have er : runLen l a = alt 47 (l.drop (a + 1)) + 1 := by unfold runLen; rw [e]; simp [mark]
  rw [er]
  generalize hn : alt 47 (l.drop (a + 1)) = n
  rw [e, cend_slash n _ a d hn, List.drop_drop]
  congr 1
  · congr 1; omega

theorem run_star {l : List UInt8} {a : Nat} (h : l[a]? = some 42) (d : Int) : cend (l.drop a) a d =
    if 1 ≤ d ∧ d ≤ (runLen l a / 2 : Nat) then some (a + 2 * d.toNat) else cend (l.drop (a + runLen l a)) (a + runLen l a) (d - (runLen l a / 2 : Nat)) := by
  have e := drop_cons h
  have er : runLen l a = alt 42 (l.drop (a + 1)) + 1 := by unfold runLen; rw [e]; simp [mark]
  rw [er]
  generalize hn : alt 42 (l.drop (a + 1)) = n
  rw [e, cend_star n _ a d hn, List.drop_drop]
  congr 2
  · congr 1; omega

theorem run_other {l : List UInt8} {a : Nat} {x : UInt8} (h : l[a]? = some x) (hm : mark x = false) (d : Int) : cend (l.drop a) a d = cend (l.drop (a + runLen l a)) (a + runLen l a) d := by
  rw [runLen_other h hm, drop_cons h, cend_other x _ a d hm]
end Go.Proofs.Qxb6630220a
