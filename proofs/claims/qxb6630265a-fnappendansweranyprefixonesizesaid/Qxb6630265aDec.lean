import Derived.Test.Qxb6630265aClone
namespace Go.Proofs.Qxb6630265a
open Go.RowKit
set_option linter.unusedVariables false

theorem ret_int {k : IntKind} {a b : Int} (h : a = b) : Ending.returned (.int k a) = .returned (.int k b) := by rw [h]

set_option maxHeartbeats 800000 in
set_option maxRecDepth 100000 in
theorem ulen_any (x : Nat) (hx : x < 18446744073709551616) (w : World) : Calls Try.prog 10 #[.int .u64 x] w fun e w' => e = .returned (.int .i64 (Lib.uvarint x).length) ∧ w' = w := by
  have hlen := Lib.uvarint_length64 hx
  go_enter Try.func10, Try.ntmps10
  go_wp2
  go_loop [0, 3] (fun vx vn => ∃ (y n : Nat), vx = .int .u64 y ∧ vn = .int .i64 n ∧ y ≤ x ∧ Hid ((Lib.uvarint x).length + 1 = n + (Lib.uvarint y).length)) (fun vx _ => (intOf vx).toNat)
  case atStart => exact ⟨x, 1, rfl, rfl, Nat.le_refl _, by show _ = _; omega⟩
  case round =>
    obtain ⟨y, n, rfl, rfl, hy, H⟩ := hrel
    have hyp := Lib.uvarint_pos y
    have hn : n ≤ 10 := by have := H.out; omega
    by_cases h128 : 128 ≤ y
    · have hb := Lib.uvarint_big h128
      have HB : Hid ((Lib.uvarint y).length = (Lib.uvarint (y / 128)).length + 1) := by show _ = _; rw [hb]; simp
      clear hb
      go_wp2
      go_round
      case rel => exact ⟨y / 128, n + 1, by go_num, by go_num, by omega, by have h1 := H.out; have h2 := HB.out; show _ = _; omega⟩
      case measure => simp [intOf]; omega
    · have hsm : Lib.uvarint y = [y.toUInt8] := Lib.uvarint_small (by omega)
      have HF : Hid ((Lib.uvarint x).length = n) := by have := H.out; rw [hsm] at this; simp at this; exact this
      clear hsm H
      go_wp2
      go_ret
      exact ⟨ret_int (by rw [HF.out]), rfl⟩

/-- Bytes that lie in memory from an address on. -/
def BAt (w : World) (g off : Nat) (L : List UInt8) : Prop := ∀ j (h : j < L.length), w.cell? ⟨g, off + j, none⟩ = some (.int .u8 L[j].toNat)

/-! ### the bits that one byte brings -/
theorem or_step (acc b k : Nat) (hb : b < 256) (hk : k ≤ 9) (hacc : acc < 128 ^ k) (hlast : k = 9 → b % 128 ≤ 1) :
    bits BinOp.or IntKind.u64 (acc : Int) (IntKind.u64.wrap (IntKind.u64.wrap (bits BinOp.and IntKind.u8 (b : Int) 127) * 2 ^ (7 * k))) = ((acc + (b % 128) * 128 ^ k : Nat) : Int) := by
  have h127 := u8_and127 (x := (b : Int)) (by omega) (by omega)
  rw [h127]
  have hm : b % 128 < 128 := Nat.mod_lt _ (by omega)
  obtain ⟨r, hr⟩ : ∃ r, r = b % 128 := ⟨_, rfl⟩
  have e : ((b : Int) % 128) = (r : Int) := by omega
  rw [e, ← hr]
  rw [← hr] at hm hlast
  clear e hr hb
  rcases (show k = 0 ∨ k = 1 ∨ k = 2 ∨ k = 3 ∨ k = 4 ∨ k = 5 ∨ k = 6 ∨ k = 7 ∨ k = 8 ∨ k = 9 by omega) with rfl | rfl | rfl | rfl | rfl | rfl | rfl | rfl | rfl | rfl
  all_goals simp only [Nat.reduceMul, Nat.reducePow, Int.reducePow, Nat.pow_zero, Nat.mul_zero] at hacc ⊢
  · simp (disch := omega) only [u64_wrap_id, u64_orv0]
    omega
  · simp (disch := omega) only [u64_wrap_id, u64_orv7]
    omega
  · simp (disch := omega) only [u64_wrap_id, u64_orv14]
    omega
  · simp (disch := omega) only [u64_wrap_id, u64_orv21]
    omega
  · simp (disch := omega) only [u64_wrap_id, u64_orv28]
    omega
  · simp (disch := omega) only [u64_wrap_id, u64_orv35]
    omega
  · simp (disch := omega) only [u64_wrap_id, u64_orv42]
    omega
  · simp (disch := omega) only [u64_wrap_id, u64_orv49]
    omega
  · simp (disch := omega) only [u64_wrap_id, u64_orv56]
    omega
  · have := hlast rfl
    simp (disch := omega) only [u64_wrap_id, u64_orv63]
    omega

/-- What holds when k bytes of the varint of x at place i have been read. -/
structure UvInv (x i : Nat) (L rest : List UInt8) (k acc : Nat) : Prop where
  le : k ≤ 9
  acc : acc = x % 128 ^ k
  drop : L.drop (i + k) = Lib.uvarint (x / 128 ^ k) ++ rest
  pos : 0 < k → 1 ≤ x / 128 ^ k

theorem uv_start (x i : Nat) (L rest : List UInt8) (h : L.drop i = Lib.uvarint x ++ rest) : UvInv x i L rest 0 0 :=
  ⟨by omega, by simp; omega, by simpa using h, by omega⟩

theorem pow_le9 {k : Nat} (h : 9 < k) : 1180591620717411303424 ≤ 128 ^ k := by
  have : 128 ^ 10 ≤ 128 ^ k := Nat.pow_le_pow_right (by omega) (by omega)
  have e : 128 ^ 10 = 1180591620717411303424 := by decide
  omega

theorem div_next (x k : Nat) : x / 128 ^ (k + 1) = x / 128 ^ k / 128 := by rw [Nat.pow_succ, Nat.div_div_eq_div_mul]

theorem mod_next (x k : Nat) : x % 128 ^ (k + 1) = x % 128 ^ k + (x / 128 ^ k % 128) * 128 ^ k := by
  rw [Nat.pow_succ, Nat.mod_mul, Nat.mul_comm (128 ^ k)]

theorem uv_more {x i : Nat} {L rest : List UInt8} {k acc : Nat} (h : UvInv x i L rest k acc) (hx : x < 18446744073709551616) (h128 : 128 ≤ x / 128 ^ k) :
    L[i + k]? = some (x / 128 ^ k % 128 + 128).toUInt8 ∧ k ≤ 8 ∧ UvInv x i L rest (k + 1) (acc + (x / 128 ^ k % 128 + 128) % 128 * 128 ^ k) := by
  have hd := h.drop
  rw [Lib.uvarint_big h128] at hd
  have hk : k ≤ 8 := by
    rcases Nat.lt_or_ge 8 k with e | e
    · have e9 : k = 9 := by have := h.le; omega
      subst e9
      have : x / 128 ^ 9 < 128 := by
        have e2 : (128 : Nat) ^ 9 = 9223372036854775808 := by decide
        rw [e2]
        omega
      omega
    · exact e
  refine ⟨?_, hk, ⟨by omega, ?_, ?_, ?_⟩⟩
  · have := congrArg (fun l => l[0]?) hd
    simpa using this
  · rw [mod_next, h.acc]
    congr 2
    omega
  · rw [← Nat.add_assoc, ← List.drop_drop, hd, div_next]
    rfl
  · intro _
    rw [div_next]
    omega

theorem uv_last {x i : Nat} {L rest : List UInt8} {k acc : Nat} (h : UvInv x i L rest k acc) (hx : x < 18446744073709551616) (h128 : ¬ 128 ≤ x / 128 ^ k) :
    L[i + k]? = some (x / 128 ^ k).toUInt8 ∧ acc + (x / 128 ^ k) % 128 * 128 ^ k = x ∧ (k = 9 → x / 128 ^ k ≤ 1) ∧ (Lib.uvarint x).length = k + 1 := by
  have hd := h.drop
  rw [Lib.uvarint_small (by omega)] at hd
  refine ⟨?_, ?_, ?_, ?_⟩
  · have := congrArg (fun l => l[0]?) hd
    simpa using this
  · rw [h.acc, Nat.mod_eq_of_lt (show x / 128 ^ k < 128 by omega)]
    have := Nat.mod_add_div x (128 ^ k)
    rw [Nat.mul_comm] at this
    exact this
  · intro e9
    subst e9
    have e2 : (128 : Nat) ^ 9 = 9223372036854775808 := by decide
    rw [e2]
    omega
  · -- the length: by the same count
    have key : ∀ (j y : Nat), (j = 0 ∨ 1 ≤ y / 128 ^ j) → y / 128 ^ j < 128 → (Lib.uvarint y).length = j + 1 := by
      intro j
      induction j with
      | zero => intro y _ hy; rw [Lib.uvarint_small (by simpa using hy)]; rfl
      | succ j ih =>
        intro y h1 hy
        have e : y / 128 ^ (j + 1) = y / 128 / 128 ^ j := by rw [Nat.pow_succ, Nat.mul_comm, Nat.div_div_eq_div_mul]
        rw [e] at h1 hy
        have hbig : 128 ≤ y := by
          rcases h1 with h1 | h1
          · omega
          · rcases Nat.lt_or_ge y 128 with e2 | e2
            · rw [Nat.div_eq_of_lt e2, Nat.zero_div] at h1; omega
            · exact e2
        rw [Lib.uvarint_big hbig, List.length_cons, ih (y / 128) (.inr (by rcases h1 with h1 | h1 <;> omega)) hy]
    exact key k x (by rcases Nat.eq_zero_or_pos k with e | e; exact .inl e; exact .inr (h.pos e)) (by omega)
end Go.Proofs.Qxb6630265a
