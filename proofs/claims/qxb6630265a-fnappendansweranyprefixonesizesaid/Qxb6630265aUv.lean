import Derived.Test.Qxb6630265aDec
namespace Go.Proofs.Qxb6630265a
open Go.RowKit
set_option linter.unusedVariables false

theorem toU8 {a : Nat} (h : a < 256) : (a.toUInt8).toNat = a := Lib.toUInt8_toNat h

theorem pow_lt_of {x k acc : Nat} (h : acc = x % 128 ^ k) : acc < 128 ^ k := by
  rw [h]; exact Nat.mod_lt _ (Nat.pow_pos (by omega))

theorem ret_uv {a b c d : Int} (h : a = b) (h2 : c = d) : Ending.returned (.tuple #[.int .u64 a, .int .i64 c, .bool true]) = .returned (.tuple #[.int .u64 b, .int .i64 d, .bool true]) := by rw [h, h2]

set_option maxHeartbeats 1600000 in
set_option maxRecDepth 100000 in
theorem zzUvarint_any (g off N c i x : Nat) (L rest : List UInt8) (w : World) (hx : x < 18446744073709551616) (hN : N = L.length) (hs : N ≤ 1073741824) (hat : BAt w g off L) (hd : L.drop i = Lib.uvarint x ++ rest) :
    Calls Try.prog 8 #[.slice (some ⟨g, off, none⟩) N c, .int .i64 i] w fun e w' => e = .returned (.tuple #[.int .u64 x, .int .i64 ((i + (Lib.uvarint x).length : Nat) : Int), .bool true]) ∧ w' = w := by
  have HN : Hid (N = L.length) := hN
  have hst := uv_start x i L rest hd
  have HX : Hid (x < 18446744073709551616) := hx
  clear hN hd hx
  go_enter Try.func8, Try.ntmps8
  go_wp2
  go_loop [7, 8, 9] (fun vx vs vk => ∃ (k acc : Nat), vx = .int .u64 acc ∧ vs = .int .u64 ((7 * k : Nat) : Int) ∧ vk = .int .i64 k ∧ UvInv x i L rest k acc) (fun _ _ vk => 10 - (intOf vk).toNat)
  case atStart => exact ⟨0, 0, rfl, rfl, rfl, hst⟩
  case round =>
    obtain ⟨k, acc, rfl, rfl, rfl, hinv⟩ := hrel
    have hk := hinv.le
    have hacc := pow_lt_of hinv.acc
    by_cases h128 : 128 ≤ x / 128 ^ k
    · obtain ⟨hb, hk8, hnx⟩ := uv_more hinv HX.out h128
      have hil : i + k < L.length := by
        rcases Nat.lt_or_ge (i + k) L.length with e | e
        · exact e
        · rw [List.getElem?_eq_none e] at hb; cases hb
      have hc := hat (i + k) hil
      have hbe : L[i + k] = (x / 128 ^ k % 128 + 128).toUInt8 := by rw [List.getElem?_eq_getElem hil] at hb; simpa using hb
      rw [hbe, toU8 (by omega)] at hc
      obtain ⟨b, hbb⟩ : ∃ b, b = x / 128 ^ k % 128 + 128 := ⟨_, rfl⟩
      rw [← hbb] at hc hnx
      have hb1 : 128 ≤ b := by omega
      have hb2 : b < 256 := by omega
      have hor := or_step acc b k hb2 hk hacc (by omega)
      have HOR : Hid (bits BinOp.or IntKind.u64 (acc : Int) (IntKind.u64.wrap (IntKind.u64.wrap (bits BinOp.and IntKind.u8 (b : Int) 127) * 2 ^ (7 * k))) = ((acc + (b % 128) * 128 ^ k : Nat) : Int)) := hor
      have hN1 : i + k < N := by rw [HN.out]; exact hil
      have hd1 : decide ((N : Int) ≤ (i : Int) + (k : Int)) = false := by simp; omega
      have hk9 : ((k : Int) == 9) = false := by rw [beq_eq_false_iff_ne]; omega
      have hv : decide ((b : Int) < 128) = false := by simp; omega
      have HC : Hid (UvInv x i L rest (k + 1) (acc + b % 128 * 128 ^ k)) := hnx
      clear hb hbe hbb hor hnx h128 hil hinv hst hacc
      go_wp2
      go_round
      case rel => exact ⟨k + 1, acc + b % 128 * 128 ^ k, by rw [HOR.out], by go_num, by go_num, HC.out⟩
      case measure => simp [intOf]; omega
    · obtain ⟨hb, hsum, hlast, hlen⟩ := uv_last hinv HX.out h128
      have hil : i + k < L.length := by
        rcases Nat.lt_or_ge (i + k) L.length with e | e
        · exact e
        · rw [List.getElem?_eq_none e] at hb; cases hb
      have hc := hat (i + k) hil
      have hbe : L[i + k] = (x / 128 ^ k).toUInt8 := by rw [List.getElem?_eq_getElem hil] at hb; simpa using hb
      rw [hbe, toU8 (by omega)] at hc
      have hpos := hinv.pos
      obtain ⟨b, hbb⟩ : ∃ b, b = x / 128 ^ k := ⟨_, rfl⟩
      rw [← hbb] at hc hsum hlast hpos
      have hb1 : b < 128 := by omega
      have hor := or_step acc b k (by omega) hk hacc (by omega)
      rw [hsum] at hor
      have HOR : Hid (bits BinOp.or IntKind.u64 (acc : Int) (IntKind.u64.wrap (IntKind.u64.wrap (bits BinOp.and IntKind.u8 (b : Int) 127) * 2 ^ (7 * k))) = (x : Int)) := hor
      have hN1 : i + k < N := by rw [HN.out]; exact hil
      have hd1 : decide ((N : Int) ≤ (i : Int) + (k : Int)) = false := by simp; omega
      have hv : decide ((b : Int) < 128) = true := by simp; omega
      have HLEN : Hid ((Lib.uvarint x).length = k + 1) := hlen
      have HLAST : Hid (k = 9 → b ≤ 1) := hlast
      have HPOS : Hid (0 < k → 1 ≤ b) := hpos
      clear hb hbe hbb hor h128 hil hinv hst hacc hsum hlen hlast hpos
      rcases (show k = 0 ∨ (0 < k ∧ k < 9) ∨ k = 9 by omega) with h0 | h0 | h0
      · have hk9 : ((k : Int) == 9) = false := by rw [beq_eq_false_iff_ne]; omega
        have hk0 : decide ((0 : Int) < (k : Int)) = false := by simp; omega
        have hk0' : decide (0 < k) = false := by simp; omega
        clear h0
        go_wp2
        go_ret3
        exact ⟨ret_uv HOR.out (by rw [HLEN.out]; omega), rfl⟩
      · have hk9 : ((k : Int) == 9) = false := by rw [beq_eq_false_iff_ne]; omega
        have hk0 : decide ((0 : Int) < (k : Int)) = true := by simp; omega
        have hk0' : decide (0 < k) = true := by simp; omega
        have hb0 : ((b : Int) == 0) = false := by rw [beq_eq_false_iff_ne]; have := HPOS.out h0.1; omega
        go_wp2
        go_ret3
        exact ⟨ret_uv HOR.out (by rw [HLEN.out]; omega), rfl⟩
      · have hk9 : ((k : Int) == 9) = true := by rw [beq_iff_eq]; omega
        have hk0 : decide ((0 : Int) < (k : Int)) = true := by simp; omega
        have hk0' : decide (0 < k) = true := by simp; omega
        have hb0 : ((b : Int) == 0) = false := by rw [beq_eq_false_iff_ne]; have := HPOS.out (by omega); omega
        have hb9 : decide ((1 : Int) < (b : Int)) = false := by have := HLAST.out h0; simp; omega
        have hb9' : decide (1 < b) = false := by have := HLAST.out h0; simp; omega
        have hkl : 9 ≤ k := by omega
        clear h0
        go_wp2
        go_ret3
        exact ⟨ret_uv HOR.out (by rw [HLEN.out]; omega), rfl⟩
end Go.Proofs.Qxb6630265a
