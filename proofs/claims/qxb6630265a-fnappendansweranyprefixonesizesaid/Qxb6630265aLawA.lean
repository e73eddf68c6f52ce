import Derived.Test.Qxb6630265aLawD
namespace Go.Proofs.Qxb6630265a
open Go.RowKit
set_option linter.unusedVariables false

set_option maxHeartbeats 8000000 in
set_option maxRecDepth 100000 in
theorem lawA (a0 : Option Addr) (n0 cap0 : Nat) (bs : List UInt8) (id : Nat) (st : UInt8) (a3 : Option Addr) (n3 cap3 : Nat) (r : List UInt8) (m : ByteArray) (rounds : Int) (R : Nat) (w : World)
    (hid : Hid (id < 18446744073709551616)) (hR : Hid (R < 18446744073709551616 ∧ (R : Int) = rounds % 18446744073709551616)) (h0 : SrcB w.heap.size w a0 n0 cap0 bs) (h3 : SrcB w.heap.size w a3 n3 cap3 r) (l0 : Hid (bs.length = n0)) (l3 : Hid (r.length = n3)) (m0 : n0 ≤ 9223372036854775807) (m3 : n3 ≤ 9223372036854775807) :
    Calls Try.prog 4 #[.slice a0 n0 cap0, .int .u64 id, .int .u8 st.toNat, .slice a3 n3 cap3, .string m, .int .i64 rounds] w fun e w' => e = .returned (.bool true) ∧ Below w.heap.size w w' := by
  go_enter Try.func4, Try.ntmps4
  go_wp2_with fail
  refine (zzBytes9 a0 n0 cap0 id st.toNat a3 n3 cap3 m rounds _).mono ?_
  rintro e w' ⟨⟨rr, rfl⟩, rfl⟩
  cases rr
  · go_wp2; go_ret; exact ⟨rfl, Below.refl _ _⟩
  by_cases c0 : (262144 : Int) < n0
  · go_wp2; go_ret; exact ⟨rfl, Below.refl _ _⟩
  by_cases c3 : (262144 : Int) < n3
  · go_wp2; go_ret; exact ⟨rfl, Below.refl _ _⟩
  by_cases c4 : (262144 : Int) < m.size
  · go_wp2; go_ret; exact ⟨rfl, Below.refl _ _⟩
  have d0 : decide ((262144 : Int) < (n0 : Int)) = false := by simp; omega
  have d3 : decide ((262144 : Int) < (n3 : Int)) = false := by simp; omega
  have d4 : decide ((262144 : Int) < (m.size : Int)) = false := by simp; omega
  go_wp2_with fail
  refine (clone_any a0 n0 cap0 bs _ (by have := l0.out; omega) h0).mono ?_
  rintro e w1 ⟨v1, rfl, hown1, hb1⟩
  have hs1 := hb1.size
  have hbox0 := boxAt_new hown1 st.toNat a3 n3 cap3 m rounds
  go_wp2_with fail
  refine (appendAnswer_any w'.heap.size v1 bs id hid.out st a3 n3 cap3 r m rounds R hR.out.1 hR.out.2 _ (hown1.alloc _) (by simp; omega) ((h3.below hb1).below ((Below.refl _ _).alloc hs1 _)) (by have := l3.out; omega) (by omega) (by have := l0.out; omega)).mono ?_
  rintro e w2 ⟨v2, rfl, hown2, hupd2⟩
  have hbox := hbox0.upd hupd2
  have HBW : Hid (Below w'.heap.size w' w2) := hupd2.below (hb1.alloc hs1 _) (by simp; omega) (hown1.alloc _)
  have k0 := hbox.c0
  have k1 := hbox.c1
  have k2 := hbox.c2
  have k3 := hbox.c3
  have hs3 := h3.below HBW.out
  have hs2 := HBW.out.size
  go_wp2_with fail
  refine (appendAnswer_any w2.heap.size _ [] id hid.out st a3 n3 cap3 r m rounds R hR.out.1 hR.out.2 w2 (ownB_nil _ _) (Nat.le_refl _) (hs3.mono hs2) (by have := l3.out; omega) (by omega) (by simp)).mono ?_
  rintro e w3 ⟨v3, rfl, hown3, hupd3⟩
  have hb3 : Below w2.heap.size w2 w3 := hupd3.below (Below.refl _ _) (Nat.le_refl _) (ownB_nil _ _)
  have HB3 : Hid (Below w'.heap.size w' w3) := hupd3.below HBW.out hs2 (ownB_nil _ _)
  obtain ⟨F, j1, j3, j4, j5, j6, hP0⟩ := parts_of id st r m R
  obtain ⟨fr, hfr⟩ : ∃ fr, fr = frame id st r m R := ⟨_, rfl⟩
  rw [← hfr] at hP0 hown2 hown3
  rw [List.nil_append] at hown3
  have hP : Hid (Parts id st r m R fr F j1 j3 j4 j5 j6) := hP0
  have u1 := Lib.uvarint_length64 hid.out
  have u2 := Lib.uvarint_length64 hR.out.1
  have u3 := Lib.uvarint_length64 (x := r.length) (by have := l3.out; omega)
  have u4 := Lib.uvarint_length64 (x := m.size) (by omega)
  have HS : Hid (F = 5 + (Lib.uvarint id).length + 1 + (Lib.uvarint R).length + (Lib.uvarint n3).length + n3 + (Lib.uvarint m.size).length + m.size) := by
    have := hP0.e1
    have := hP0.e3
    have e4 := hP0.e4
    have e5 := hP0.e5
    have := hP0.e6
    have := hP0.eF
    have e := l3.out
    rw [e] at e4 e5
    show _ = _
    omega
  have HF : Hid (5 ≤ F ∧ F ≤ 1000000) := by
    have := HS.out
    have e := l3.out
    rw [e] at u3
    exact ⟨by omega, by omega⟩
  obtain ⟨N, hN⟩ : ∃ N, N = n0 + F := ⟨_, rfl⟩
  have hPl := hP0.len
  have hF0 : 5 ≤ F ∧ F ≤ 1000000 := HF.out
  obtain ⟨g, cap, hv2, hg1, hg2, hcap⟩ := ownB_form hown2 (by rw [List.length_append]; omega)
  obtain ⟨q, capq, hv3, hq1, hq2, hcapq⟩ := ownB_form hown3 (by omega)
  have hNl : (bs ++ fr).length = N := by rw [List.length_append, l0.out, ← hPl, hN]
  rw [hv2, hv3]
  rw [hv2, hNl] at hown2
  rw [hNl] at hcap ⊢
  rw [← hPl] at hcapq ⊢
  rw [hv3, ← hPl] at hown3
  have hatO := (bat_of_own hNl.symm hown2).below hb3 hg2
  have hatL := hatO.left
  have hatR := hatO.right
  rw [Nat.zero_add, l0.out] at hatR
  have hatA := bat_of_own hPl hown3
  have hs0 := h0.below HB3.out
  have HN : Hid (N = n0 + F) := hN
  have bN1 : n0 + F ≤ N := by omega
  have bN2 : N ≤ 1262144 := by omega
  clear u1 u2 u3 u4 hfr hown2 hown3 hupd2 hupd3 hown1 hb1 hNl hv2 hv3 hs1 h0 h3 hb3 hatO hP0 hPl hbox hbox0 k0 k1 k2 k3 hs3 hs2 hN
  go_wp2_with fail
  refine (ulen_any id hid.out _).mono ?_
  rintro e w'' ⟨rfl, hw''⟩
  rw [hw'']
  clear hw''
  have hw1 : IntKind.u64.wrap rounds = (R : Int) := hR.out.2.symm
  have hwn : IntKind.u64.wrap (n3 : Int) = (n3 : Int) := wraps_u64 _ (by omega) (by omega)
  have hwm : IntKind.u64.wrap (m.size : Int) = (m.size : Int) := wraps_u64 _ (by omega) (by omega)
  obtain ⟨x1, hx1⟩ : ∃ x, Hid (x = (Lib.uvarint id).length) := ⟨_, rfl⟩
  obtain ⟨x2, hx2⟩ : ∃ x, Hid (x = (Lib.uvarint R).length) := ⟨_, rfl⟩
  obtain ⟨x3, hx3⟩ : ∃ x, Hid (x = (Lib.uvarint n3).length) := ⟨_, rfl⟩
  obtain ⟨x4, hx4⟩ : ∃ x, Hid (x = (Lib.uvarint m.size).length) := ⟨_, rfl⟩
  rw [← hx1.out, ← hx2.out, ← hx3.out, ← hx4.out] at HS
  rw [← hx1.out]
  have hb1 : x1 + x2 + x3 + x4 + n3 + m.size ≤ F := by have := HS.out; omega
  go_wp2_with fail
  refine (ulen_any R hR.out.1 _).mono ?_
  rintro e w'' ⟨rfl, hw''⟩
  rw [hw'', ← hx2.out]
  clear hw''
  go_wp2_with fail
  refine (ulen_any n3 (by omega) _).mono ?_
  rintro e w'' ⟨rfl, hw''⟩
  rw [hw'', ← hx3.out]
  clear hw''
  go_wp2_with fail
  refine (ulen_any m.size (by omega) _).mono ?_
  rintro e w'' ⟨rfl, hw''⟩
  rw [hw'', ← hx4.out]
  clear hw''
  clear hx1 hx2 hx3 hx4
  have hsum : 5 + (x1 : Int) + 1 + (x2 : Int) + (x3 : Int) + (n3 : Int) + (x4 : Int) + (m.size : Int) = (F : Int) := by have := HS.out; omega
  have hsN : (n0 : Int) + (F : Int) = (N : Int) := by have := HN.out; omega
  go_wp2
  go_loopw [18] (fun i wr => ∃ k : Nat, k ≤ n0 ∧ i = .int .i64 k ∧ ∃ n, wr = w3.drewN n) (fun i _ => n0 - (intOf i).toNat)
  case atStart => exact ⟨0, Nat.zero_le _, rfl, 0, rfl⟩
  case round =>
    obtain ⟨k, hk, rfl, nd, rfl⟩ := hrel
    by_cases hlt : k < n0
    · have hkb : k < bs.length := by rw [l0.out]; exact hlt
      obtain ⟨b, off, rfl, hbat⟩ := bat_of_src hs0 (by omega)
      have hc1 := hatL k hkb
      have hc2 := hbat k hkb
      rw [Nat.zero_add] at hc1
      have hi1 : (k : Int) < (N : Int) := by omega
      go_wp2
      go_quiet (fail)
      go_wp2
      go_roundw
      case rel => exact ⟨k + 1, by omega, by go_num, _, rfl⟩
      case measure => simp [intOf]; omega
    · generalize hWd : w3.drewN nd = W
      have hatB : BAt W g n0 fr := hWd ▸ hatR.drewN nd
      have hatA' : BAt W q 0 fr := hWd ▸ hatA.drewN nd
      have hbwW : Hid (Below w'.heap.size w' W) := by rw [← hWd]; exact below_drewN'' HB3.out nd
      clear hWd hatL hatR hs0 hatA
      go_wp2
      go_loopw [19] (fun i wr => ∃ k : Nat, k ≤ F ∧ i = .int .i64 k ∧ ∃ n, wr = W.drewN n) (fun i _ => F - (intOf i).toNat)
      case atStart => exact ⟨0, Nat.zero_le _, rfl, 0, rfl⟩
      case round =>
        obtain ⟨i, hi, rfl, nd2, rfl⟩ := hrel
        by_cases hlt2 : i < F
        · have hkb : i < fr.length := by have := hP.out.len; omega
          have hc1 := hatB i hkb
          have hc2 := hatA' i hkb
          rw [Nat.zero_add] at hc2
          obtain ⟨y, hy⟩ : ∃ y, y = n0 + i := ⟨_, rfl⟩
          rw [← hy] at hc1
          have hyi : (n0 : Int) + (i : Int) = (y : Int) := by omega
          have hi1 : (y : Int) < (N : Int) := by have := HN.out; omega
          clear hy
          go_wp2
          go_quiet (fail)
          go_wp2
          go_roundw
          case rel => exact ⟨i + 1, by omega, by go_num, _, rfl⟩
          case measure => simp [intOf]; omega
        · generalize hWd : W.drewN nd2 = U
          have hatU : BAt U q 0 fr := hWd ▸ hatA'.drewN nd2
          have hbwU : Hid (Below w'.heap.size w' U) := by rw [← hWd]; exact below_drewN'' hbwW.out nd2
          clear hWd hatB hatA'
          have f0 : 0 < F := by omega
          have f1 : (1 : Int) < (F : Int) := by omega
          have f2 : (2 : Int) < (F : Int) := by omega
          have f3 : (3 : Int) < (F : Int) := by omega
          have hc0 := hatU.at hP.out.h0
          have hc1 := hatU.at hP.out.h1
          have hc2 := hatU.at hP.out.h2
          have hc3 := hatU.at hP.out.h3
          rw [toU8 (Nat.mod_lt _ (by omega))] at hc0 hc1 hc2 hc3
          simp only [Nat.zero_add] at hc0 hc1 hc2 hc3
          obtain ⟨y0, e0⟩ : ∃ y, y = (F - 4) / 16777216 % 256 := ⟨_, rfl⟩
          obtain ⟨y1, e1⟩ : ∃ y, y = (F - 4) / 65536 % 256 := ⟨_, rfl⟩
          obtain ⟨y2, e2⟩ : ∃ y, y = (F - 4) / 256 % 256 := ⟨_, rfl⟩
          obtain ⟨y3, e3⟩ : ∃ y, y = (F - 4) % 256 := ⟨_, rfl⟩
          rw [← e0] at hc0
          rw [← e1] at hc1
          rw [← e2] at hc2
          rw [← e3] at hc3
          have HY : Hid (y0 = (F - 4) / 16777216 % 256 ∧ y1 = (F - 4) / 65536 % 256 ∧ y2 = (F - 4) / 256 % 256 ∧ y3 = (F - 4) % 256) := ⟨e0, e1, e2, e3⟩
          have q0 : y0 < 256 := by omega
          have q1 : y1 < 256 := by omega
          have q2 : y2 < 256 := by omega
          have q3 : y3 < 256 := by omega
          clear e0 e1 e2 e3
          go_wp2
          go_quiet (fail)
          rw [join4 (F - 4) (by omega) y0 y1 y2 y3 (by rw [HY.out.1]) (by rw [HY.out.2.1]) (by rw [HY.out.2.2.1]) (by rw [HY.out.2.2.2])]
          rw [show ((F - 4 : Nat) : Int) = (F : Int) - 4 by omega]
          go_wp2
          go_ret
          exact ⟨rfl, below_drewN'' hbwU.out _⟩
end Go.Proofs.Qxb6630265a
