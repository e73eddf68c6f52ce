import Derived.Lib.ParseIntBTie
import GoSem.Op.String
namespace Go.Proofs.Qxb6630312aDoor
open Go

/-! ### what a text of digits spells -/
def dv (p : Nat) (l : List UInt8) : Nat := l.foldl (fun a c => a * 10 + (c.toNat - 48)) p
theorem dv_nil (p : Nat) : dv p [] = p := rfl
theorem dv_cons (p : Nat) (c : UInt8) (r : List UInt8) : dv p (c :: r) = dv (p * 10 + (c.toNat - 48)) r := by unfold dv; rw [List.foldl_cons]
abbrev Dig (l : List UInt8) : Prop := ∀ c ∈ l, 48 ≤ c.toNat ∧ c.toNat ≤ 57

theorem Dig.head {c : UInt8} {r : List UInt8} (h : Dig (c :: r)) : 48 ≤ c.toNat ∧ c.toNat ≤ 57 := h c (by simp)
theorem Dig.tail {c : UInt8} {r : List UInt8} (h : Dig (c :: r)) : Dig r := fun x hx => h x (by simp [hx])
theorem Dig.cons {c : UInt8} {r : List UInt8} (h : 48 ≤ c.toNat ∧ c.toNat ≤ 57) (k : Dig r) : Dig (c :: r) := by
  intro x hx
  rcases List.mem_cons.1 hx with rfl | hx
  · exact h
  · exact k x hx

/-- The id that a text names. -/
def pid : List UInt8 → Option Nat
  | [] => none
  | c :: r => if 49 ≤ c.toNat ∧ c.toNat ≤ 57 ∧ Dig (c :: r) ∧ dv 0 (c :: r) < 9223372036854775808 then some (dv 0 (c :: r)) else none

theorem pid_cons (c : UInt8) (r : List UInt8) : pid (c :: r) = if 49 ≤ c.toNat ∧ c.toNat ≤ 57 ∧ Dig (c :: r) ∧ dv 0 (c :: r) < 9223372036854775808 then some (dv 0 (c :: r)) else none := rfl

theorem dv_ge (l : List UInt8) : ∀ p : Nat, p * 10 ^ l.length ≤ dv p l := by
  induction l with
  | nil =>
    intro p
    rw [List.length_nil, Nat.pow_zero, Nat.mul_one]
    exact Nat.le_refl _
  | cons c r ih =>
    intro p
    have h := ih (p * 10 + (c.toNat - 48))
    have e : p * (10 ^ r.length * 10) = p * 10 * 10 ^ r.length := by rw [Nat.mul_comm (10 ^ r.length) 10, Nat.mul_assoc]
    rw [List.length_cons, Nat.pow_succ]
    exact Nat.le_trans (Nat.le_of_eq e) (Nat.le_trans (Nat.mul_le_mul_right _ (Nat.le_add_right _ _)) h)

theorem dv_lt (l : List UInt8) : ∀ p : Nat, Dig l → dv p l < (p + 1) * 10 ^ l.length := by
  induction l with
  | nil =>
    intro p _
    rw [List.length_nil, Nat.pow_zero, Nat.mul_one]
    exact Nat.lt_succ_self _
  | cons c r ih =>
    intro p hd
    have h := ih (p * 10 + (c.toNat - 48)) hd.tail
    have hc := hd.head
    have e : (p + 1) * (10 ^ r.length * 10) = (p * 10 + 10) * 10 ^ r.length := by
      rw [Nat.mul_comm (10 ^ r.length) 10, ← Nat.mul_assoc, Nat.add_mul, Nat.one_mul]
    rw [List.length_cons, Nat.pow_succ]
    exact Nat.lt_of_lt_of_le h (Nat.le_trans (Nat.mul_le_mul_right _ (by omega)) (Nat.le_of_eq e.symm))

theorem dv_le_of (l : List UInt8) (p : Nat) : p ≤ dv p l :=
  Nat.le_trans (Nat.le_mul_of_pos_right _ (Nat.pow_pos (by omega))) (dv_ge l p)

theorem dv_append : ∀ (l : List UInt8) (p : Nat) (c : UInt8), dv p (l ++ [c]) = dv p l * 10 + (c.toNat - 48)
  | [], p, c => by simp [dv_nil, dv_cons]
  | x :: r, p, c => by simp only [List.cons_append, dv_cons]; exact dv_append r _ c

/-! ### the order of the bytes is the order of the numbers -/
theorem less_iff : ∀ (a b : List UInt8) (p : Nat), a.length = b.length → Dig a → Dig b → (Op.bytesLess a b = true ↔ dv p a < dv p b)
  | [], [], p, _, _, _ => by simp [Op.bytesLess, dv_nil]
  | [], _ :: _, p, h, _, _ => by simp at h
  | _ :: _, [], p, h, _, _ => by simp at h
  | c :: x, d :: y, p, h, ha, hb => by
    have hl : x.length = y.length := by simpa using h
    have hc := ha.head
    have hd := hb.head
    have ux := dv_lt x (p * 10 + (c.toNat - 48)) ha.tail
    have uy := dv_lt y (p * 10 + (d.toNat - 48)) hb.tail
    have lx := dv_ge x (p * 10 + (c.toNat - 48))
    have ly := dv_ge y (p * 10 + (d.toNat - 48))
    rw [← hl] at uy ly
    simp only [Op.bytesLess, dv_cons, Bool.or_eq_true, Bool.and_eq_true, decide_eq_true_eq, beq_iff_eq]
    rcases Nat.lt_trichotomy c.toNat d.toNat with e | e | e
    · have hlt : c < d := UInt8.lt_iff_toNat_lt.2 e
      have := Nat.mul_le_mul_right (10 ^ x.length) (show p * 10 + (c.toNat - 48) + 1 ≤ p * 10 + (d.toNat - 48) by omega)
      exact ⟨fun _ => by omega, fun _ => .inl hlt⟩
    · have he : c = d := UInt8.toNat_inj.1 e
      subst he
      have ih := less_iff x y (p * 10 + (c.toNat - 48)) hl ha.tail hb.tail
      rw [← ih]
      have hn : ¬ c < c := by rw [UInt8.lt_iff_toNat_lt]; omega
      simp [hn]
    · have hn : ¬ c < d := by rw [UInt8.lt_iff_toNat_lt]; omega
      have hne : ¬ c = d := by intro h; rw [h] at e; omega
      have := Nat.mul_le_mul_right (10 ^ x.length) (show p * 10 + (d.toNat - 48) + 1 ≤ p * 10 + (c.toNat - 48) by omega)
      exact ⟨fun h => by rcases h with h | h; exact absurd h hn; exact absurd h.1 hne, fun h => by omega⟩

theorem less_tri : ∀ (a b : List UInt8), Op.bytesLess a b = true ∨ a = b ∨ Op.bytesLess b a = true
  | [], [] => by simp
  | [], _ :: _ => by simp [Op.bytesLess]
  | _ :: _, [] => by simp [Op.bytesLess]
  | c :: x, d :: y => by
    simp only [Op.bytesLess, Bool.or_eq_true, Bool.and_eq_true, decide_eq_true_eq, beq_iff_eq]
    rcases Nat.lt_trichotomy c.toNat d.toNat with e | e | e
    · exact .inl (.inl (UInt8.lt_iff_toNat_lt.2 e))
    · have he : c = d := UInt8.toNat_inj.1 e
      subst he
      rcases less_tri x y with h | h | h
      · exact .inl (.inr ⟨rfl, h⟩)
      · exact .inr (.inl (by rw [h]))
      · exact .inr (.inr (.inr ⟨rfl, h⟩))
    · exact .inr (.inr (.inl (UInt8.lt_iff_toNat_lt.2 e)))

theorem dv_inj {a b : List UInt8} {p : Nat} (hl : a.length = b.length) (ha : Dig a) (hb : Dig b) (h : dv p a = dv p b) : a = b := by
  rcases less_tri a b with e | e | e
  · have := (less_iff a b p hl ha hb).1 e; omega
  · exact e
  · have := (less_iff b a p hl.symm hb ha).1 e; omega

/-! ### what the library's parse gives -/
theorem pu_ok : ∀ (l : List UInt8) (acc u : Nat), Lib.parseUint10 acc l = .ok u → Dig l ∧ u = dv acc l
  | [], acc, u, h => by
    simp only [Lib.parseUint10] at h
    injection h with h
    exact ⟨fun _ hx => by simp at hx, h.symm⟩
  | c :: r, acc, u, h => by
    simp only [Lib.parseUint10] at h
    split at h
    next hc =>
      split at h
      · cases h
      · split at h
        · cases h
        · obtain ⟨h1, h2⟩ := pu_ok r _ u h
          exact ⟨Dig.cons hc h1, h2⟩
    · cases h

theorem pu_of : ∀ (l : List UInt8) (acc : Nat), Dig l → dv acc l < 18446744073709551616 → Lib.parseUint10 acc l = .ok (dv acc l)
  | [], acc, _, _ => rfl
  | c :: r, acc, hd, h => by
    have hc := hd.head
    rw [dv_cons] at h
    have hle := dv_le_of r (acc * 10 + (c.toNat - 48))
    simp only [Lib.parseUint10, if_pos hc, dv_cons]
    rw [if_neg (by omega), if_neg (by omega)]
    exact pu_of r _ hd.tail h

theorem mag_cons (c : UInt8) (r : List UInt8) : Lib.parseMag (c :: r) = Lib.parseUint10 0 (c :: r) := by simp [Lib.parseMag]

theorem parse_back (c : UInt8) (r : List UInt8) (h1 : 49 ≤ c.toNat) (h2 : c.toNat ≤ 57) (v : Int) (h : Lib.parseIntB 64 (c :: r) = .ok v) :
    ∃ u, Lib.parseUint10 0 (c :: r) = .ok u ∧ u < 9223372036854775808 ∧ v = (u : Int) := by
  have n1 : ¬ (c.toNat = 43 ∨ c.toNat = 45) := by omega
  have n2 : ¬ c.toNat = 45 := by omega
  rw [Lib.parseIntB_64] at h
  simp only [Lib.atoiAll, if_neg n1, mag_cons] at h
  simp only [n2, not_false_eq_true, true_and, false_and, if_false] at h
  cases hp : Lib.parseUint10 0 (c :: r)
  · rename_i u
    rw [hp] at h
    refine ⟨u, rfl, ?_⟩
    by_cases k : 9223372036854775808 ≤ u
    · simp only [if_pos k] at h
      cases h
    · simp only [if_neg k] at h
      injection h with h
      exact ⟨by omega, h.symm⟩
  · rw [hp] at h
    cases h
  · rw [hp] at h
    cases h

theorem parse_fore (c : UInt8) (r : List UInt8) (h1 : 49 ≤ c.toNat) (h2 : c.toNat ≤ 57) (u : Nat) (hp : Lib.parseUint10 0 (c :: r) = .ok u) (hu : u < 9223372036854775808) :
    Lib.parseIntB 64 (c :: r) = .ok (u : Int) := by
  have n1 : ¬ (c.toNat = 43 ∨ c.toNat = 45) := by omega
  have n2 : ¬ c.toNat = 45 := by omega
  rw [Lib.parseIntB_64]
  simp only [Lib.atoiAll, if_neg n1, mag_cons]
  simp only [n2, not_false_eq_true, true_and, false_and, if_false, hp]
  rw [if_neg (by omega)]

theorem parse_ok (c : UInt8) (r : List UInt8) (h1 : 49 ≤ c.toNat) (h2 : c.toNat ≤ 57) (v : Int) (h : Lib.parseIntB 64 (c :: r) = .ok v) : pid (c :: r) = some v.toNat ∧ 0 ≤ v := by
  obtain ⟨u, hp, hu, rfl⟩ := parse_back c r h1 h2 v h
  obtain ⟨hd, he⟩ := pu_ok _ _ _ hp
  refine ⟨?_, by omega⟩
  rw [pid_cons, if_pos ⟨h1, h2, hd, by omega⟩, ← he]
  rfl

theorem parse_none (c : UInt8) (r : List UInt8) (h1 : 49 ≤ c.toNat) (h2 : c.toNat ≤ 57) (h : ∀ v, Lib.parseIntB 64 (c :: r) ≠ .ok v) : pid (c :: r) = none := by
  rw [pid_cons, if_neg]
  rintro ⟨_, _, hd, hl⟩
  exact h _ (parse_fore c r h1 h2 _ (pu_of _ _ hd (by omega)) hl)

theorem pid_head {c : UInt8} {r : List UInt8} (h : ¬ (49 ≤ c.toNat ∧ c.toNat ≤ 57)) : pid (c :: r) = none := by
  rw [pid_cons]
  rw [if_neg]
  rintro ⟨a, b, _⟩
  exact h ⟨a, b⟩

theorem pid_some {l : List UInt8} {v : Nat} (h : pid l = some v) : ∃ c r, l = c :: r ∧ 49 ≤ c.toNat ∧ c.toNat ≤ 57 ∧ Dig l ∧ dv 0 l < 9223372036854775808 ∧ v = dv 0 l := by
  cases l with
  | nil => cases h
  | cons c r =>
    rw [pid_cons] at h
    split at h
    next k =>
      injection h with h
      exact ⟨c, r, rfl, k.1, k.2.1, k.2.2.1, k.2.2.2, h.symm⟩
    · cases h

theorem pid_of {c : UInt8} {r : List UInt8} (h1 : 49 ≤ c.toNat) (h2 : c.toNat ≤ 57) (hd : Dig (c :: r)) (hl : dv 0 (c :: r) < 9223372036854775808) : pid (c :: r) = some (dv 0 (c :: r)) := by
  rw [pid_cons]
  rw [if_pos ⟨h1, h2, hd, hl⟩]

theorem pid_notDig {l : List UInt8} (h : ¬ Dig l) : pid l = none := by
  cases e : pid l with
  | none => rfl
  | some v => obtain ⟨_, _, _, _, _, hd, _⟩ := pid_some e; exact absurd hd h

/-! ### the canonical texts -/
def maxT : List UInt8 := [57, 50, 50, 51, 51, 55, 50, 48, 51, 54, 56, 53, 52, 55, 55, 53, 56, 48, 55]
theorem maxT_dig : Dig maxT := by decide
theorem maxT_dv : dv 0 maxT = 9223372036854775807 := by decide
theorem maxT_len : maxT.length = 19 := rfl

theorem dv_first {c : UInt8} {r : List UInt8} (h1 : 49 ≤ c.toNat) : 10 ^ r.length ≤ dv 0 (c :: r) := by
  have h := dv_ge r (0 * 10 + (c.toNat - 48))
  rw [dv_cons]
  exact Nat.le_trans (Nat.le_mul_of_pos_left _ (by omega)) h

theorem long_none {l : List UInt8} (h : 19 < l.length) : pid l = none := by
  cases e : pid l with
  | none => rfl
  | some v =>
    obtain ⟨c, r, rfl, h1, _, _, hl, _⟩ := pid_some e
    have := dv_first (r := r) h1
    have h19 : 10 ^ 19 ≤ 10 ^ r.length := Nat.pow_le_pow_right (by omega) (by simp at h; omega)
    have : (10 : Nat) ^ 19 = 10000000000000000000 := by decide
    omega

theorem short_some {c : UInt8} {r : List UInt8} (h1 : 49 ≤ c.toNat) (h2 : c.toNat ≤ 57) (hd : Dig (c :: r)) (h : (c :: r).length < 19) : (pid (c :: r)).isSome = true := by
  have hu := dv_lt (c :: r) 0 hd
  have h18 : 10 ^ (c :: r).length ≤ 10 ^ 18 := Nat.pow_le_pow_right (by omega) (by omega)
  have : (10 : Nat) ^ 18 = 1000000000000000000 := by decide
  rw [pid_of h1 h2 hd (by omega)]
  rfl

/-- Of nineteen digits: what the bytes' order says. -/
theorem nineteen {c : UInt8} {r : List UInt8} (h1 : 49 ≤ c.toNat) (h2 : c.toNat ≤ 57) (hd : Dig (c :: r)) (h : (c :: r).length = 19) :
    (pid (c :: r)).isSome = (Op.bytesLess (c :: r) maxT || (c :: r) == maxT) := by
  have hl := less_iff (c :: r) maxT 0 (by rw [h, maxT_len]) hd maxT_dig
  rw [maxT_dv] at hl
  by_cases e : dv 0 (c :: r) < 9223372036854775808
  · rw [pid_of h1 h2 hd e]
    rcases Nat.lt_or_ge (dv 0 (c :: r)) 9223372036854775807 with k | k
    · rw [hl.2 k]; rfl
    · have : c :: r = maxT := dv_inj (p := 0) (by rw [h, maxT_len]) hd maxT_dig (by rw [maxT_dv]; omega)
      rw [this]
      decide
  · have hn : pid (c :: r) = none := by rw [pid_cons]; rw [if_neg]; rintro ⟨_, _, _, k⟩; exact e k
    have h3 : Op.bytesLess (c :: r) maxT = false := by
      cases hb : Op.bytesLess (c :: r) maxT with
      | false => rfl
      | true => have := hl.1 hb; omega
    have h4 : ((c :: r) == maxT) = false := by
      rw [beq_eq_false_iff_ne]
      intro k
      rw [k, maxT_dv] at e
      omega
    rw [hn, h3, h4]
    rfl

/-! ### the laws -/
theorem law_append (s : List UInt8) (c : UInt8) (b : Nat) (h : pid (s ++ [c]) = some b) :
    48 ≤ c.toNat ∧ c.toNat ≤ 57 ∧ b < 9223372036854775808 ∧ (s = [] → b = c.toNat - 48) ∧ (s ≠ [] → ∃ a, pid s = some a ∧ b = 10 * a + (c.toNat - 48)) := by
  obtain ⟨x, r, he, h1, h2, hd, hl, rfl⟩ := pid_some h
  have hc := hd c (by simp)
  refine ⟨hc.1, hc.2, hl, ?_, ?_⟩
  · rintro rfl
    simp [dv_nil, dv_cons]
  · intro hs
    cases s with
    | nil => exact absurd rfl hs
    | cons y q =>
      have hy : y = x := by simp only [List.cons_append, List.cons.injEq] at he; exact he.1
      subst hy
      rw [dv_append] at hl ⊢
      refine ⟨_, pid_of h1 h2 (fun z hz => hd z (by simp only [List.mem_append]; exact .inl hz)) (by omega), by omega⟩

theorem law_order (a b : List UInt8) (va vb : Nat) (ha : pid a = some va) (hb : pid b = some vb) :
    0 < va ∧ 0 < vb ∧ va < 9223372036854775808 ∧ vb < 9223372036854775808 ∧ (va < vb ↔ (a.length < b.length ∨ a.length = b.length ∧ Op.bytesLess a b = true)) ∧ (va = vb ↔ a = b) := by
  obtain ⟨x, r, ea, h1, h2, hd, hl, rfl⟩ := pid_some ha
  obtain ⟨y, q, eb, k1, k2, kd, kl, rfl⟩ := pid_some hb
  have pa : 10 ^ r.length ≤ dv 0 a := by rw [ea]; exact dv_first h1
  have pb : 10 ^ q.length ≤ dv 0 b := by rw [eb]; exact dv_first k1
  have ua := dv_lt a 0 hd
  have ub := dv_lt b 0 kd
  have la : a.length = r.length + 1 := by rw [ea]; rfl
  have lb : b.length = q.length + 1 := by rw [eb]; rfl
  have p0 : 0 < 10 ^ r.length := Nat.pow_pos (by omega)
  have p1 : 0 < 10 ^ q.length := Nat.pow_pos (by omega)
  refine ⟨by omega, by omega, hl, kl, ?_, ?_⟩
  · rcases Nat.lt_trichotomy a.length b.length with e | e | e
    · have : 10 ^ a.length ≤ 10 ^ q.length := Nat.pow_le_pow_right (by omega) (by omega)
      exact ⟨fun _ => .inl e, fun _ => by omega⟩
    · rw [← less_iff a b 0 e hd kd]
      exact ⟨fun h => .inr ⟨e, h⟩, fun h => by rcases h with h | h; omega; exact h.2⟩
    · have : 10 ^ b.length ≤ 10 ^ r.length := Nat.pow_le_pow_right (by omega) (by omega)
      exact ⟨fun h => by omega, fun h => by omega⟩
  · refine ⟨fun h => ?_, fun h => by rw [h]⟩
    rcases Nat.lt_trichotomy a.length b.length with e | e | e
    · have : 10 ^ a.length ≤ 10 ^ q.length := Nat.pow_le_pow_right (by omega) (by omega)
      omega
    · exact dv_inj e hd kd h
    · have : 10 ^ b.length ≤ 10 ^ r.length := Nat.pow_le_pow_right (by omega) (by omega)
      omega
end Go.Proofs.Qxb6630312aDoor
