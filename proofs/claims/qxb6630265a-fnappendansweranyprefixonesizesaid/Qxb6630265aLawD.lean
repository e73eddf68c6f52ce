import Derived.Test.Qxb6630265aParts
import Derived.Deep.DeepCutAuto
namespace Go.Proofs.Qxb6630265a
open Go.RowKit
set_option linter.unusedVariables false

theorem below_drewN'' {B : Nat} {w w' : World} (h : Below B w w') (n : Nat) : Below B w (w'.drewN n) := ⟨h.os, h.tape, h.output, h.size, h.block⟩

theorem zzUvarint_at (g off N c i j x : Nat) (I : Int) (L : List UInt8) (w : World) (hI : I = (i : Int)) (hx : x < 18446744073709551616) (hN : N = L.length) (hs : N ≤ 1073741824) (hat : BAt w g off L) (hd : ∃ t, L.drop i = Lib.uvarint x ++ t) (hj : j = i + (Lib.uvarint x).length) :
    Calls Try.prog 8 #[.slice (some ⟨g, off, none⟩) N c, .int .i64 I] w fun e w' => e = .returned (.tuple #[.int .u64 x, .int .i64 j, .bool true]) ∧ w' = w := by
  obtain ⟨t, ht⟩ := hd
  subst hI hj
  exact zzUvarint_any g off N c i x L t w hx hN hs hat ht

set_option maxHeartbeats 8000000 in
set_option maxRecDepth 100000 in
theorem lawD (a0 : Option Addr) (n0 cap0 : Nat) (bs : List UInt8) (id : Nat) (st : UInt8) (a3 : Option Addr) (n3 cap3 : Nat) (r : List UInt8) (m : ByteArray) (rounds : Int) (R : Nat) (w : World)
    (hid : Hid (id < 18446744073709551616)) (hR : Hid (R < 18446744073709551616 ∧ (R : Int) = rounds % 18446744073709551616)) (h0 : SrcB w.heap.size w a0 n0 cap0 bs) (h3 : SrcB w.heap.size w a3 n3 cap3 r) (l0 : Hid (bs.length = n0)) (l3 : Hid (r.length = n3)) (m0 : n0 ≤ 9223372036854775807) (m3 : n3 ≤ 9223372036854775807) :
    Calls Try.prog 3 #[.slice a0 n0 cap0, .int .u64 id, .int .u8 st.toNat, .slice a3 n3 cap3, .string m, .int .i64 rounds] w fun e w' => e = .returned (.bool true) ∧ Below w.heap.size w w' := by
  go_enter Try.func3, Try.ntmps3
  go_wp2_with fail
  refine (zzBytes5 a0 n0 cap0 id st.toNat a3 n3 cap3 m rounds _).mono ?_
  rintro e w' ⟨⟨rr, rfl⟩, rfl⟩
  cases rr
  · go_wp2; go_ret; exact ⟨rfl, Below.refl _ _⟩
  by_cases c0 : (262144 : Int) < n0
  · go_wp2; go_ret; exact ⟨rfl, Below.refl _ _⟩
  by_cases c3 : (262144 : Int) < n3
  · go_wp2; go_ret; exact ⟨rfl, Below.refl _ _⟩
  by_cases c4 : (262144 : Int) < m.size
  · go_wp2; go_ret; exact ⟨rfl, Below.refl _ _⟩
  have d0 : decide ((262144 : Int) < (n0 : Int)) = false := by simp; omega
  have d3 : decide ((262144 : Int) < (n3 : Int)) = false := by simp; omega
  have d4 : decide ((262144 : Int) < (m.size : Int)) = false := by simp; omega
  go_wp2_with fail
  refine (clone_any a0 n0 cap0 bs _ (by have := l0.out; omega) h0).mono ?_
  rintro e w1 ⟨v1, rfl, hown1, hb1⟩
  have hs1 := hb1.size
  go_wp2_with fail
  refine (appendAnswer_any w'.heap.size v1 bs id hid.out st a3 n3 cap3 r m rounds R hR.out.1 hR.out.2 _ (hown1.alloc _) (by simp; omega) ((h3.below hb1).below ((Below.refl _ _).alloc hs1 _)) (by have := l3.out; omega) (by omega) (by have := l0.out; omega)).mono ?_
  rintro e w2 ⟨v2, rfl, hown2, hupd2⟩
  have hbw : Below w'.heap.size w' w2 := hupd2.below (hb1.alloc hs1 _) (by simp; omega) (hown1.alloc _)
  obtain ⟨F, j1, j3, j4, j5, j6, hP0⟩ := parts_of id st r m R
  obtain ⟨fr, hfr⟩ : ∃ fr, fr = frame id st r m R := ⟨_, rfl⟩
  rw [← hfr] at hP0 hown2
  have hP : Hid (Parts id st r m R fr F j1 j3 j4 j5 j6) := hP0
  have u1 := Lib.uvarint_length64 hid.out
  have u2 := Lib.uvarint_length64 hR.out.1
  have u3 := Lib.uvarint_length64 (x := r.length) (by have := l3.out; omega)
  have u4 := Lib.uvarint_length64 (x := m.size) (by omega)
  have p1 := Lib.uvarint_pos id
  have p2 := Lib.uvarint_pos R
  have p3 := Lib.uvarint_pos r.length
  have p4 := Lib.uvarint_pos m.size
  have b1 : 6 ≤ j1 ∧ j1 ≤ 15 := by have := hP0.e1; omega
  have b3 : j1 + 2 ≤ j3 ∧ j3 ≤ j1 + 11 := by have := hP0.e3; omega
  have b4 : j3 + 1 ≤ j4 ∧ j4 ≤ j3 + 10 := by have := hP0.e4; omega
  have b5 : j5 = j4 + n3 := by have := hP0.e5; have := l3.out; omega
  have b6 : j5 + 1 ≤ j6 ∧ j6 ≤ j5 + 10 := by have := hP0.e6; omega
  have b7 : F = j6 + m.size := hP0.eF
  obtain ⟨N, hN⟩ : ∃ N, N = n0 + F := ⟨_, rfl⟩
  obtain ⟨g, cap, hv2, hg1, hg2, hcap⟩ := ownB_form hown2 (by rw [List.length_append]; have := hP0.len; omega)
  have hNl : (bs ++ fr).length = N := by rw [List.length_append, l0.out, ← hP0.len, hN]
  rw [hv2] at hown2 ⊢
  rw [hNl] at hown2 hcap ⊢
  have hat := bat_of_own hNl.symm hown2
  have hatL := hat.left
  have hatR := hat.right
  rw [Nat.zero_add, l0.out] at hatR
  have hs0 := h0.below hbw
  have hs3 := h3.below hbw
  have B5 : j5 = j4 + n3 := b5
  have HE : Hid (j5 = j4 + n3 ∧ F = j6 + m.size ∧ N = n0 + F) := ⟨b5, b7, hN⟩
  have bN1 : n0 + 5 ≤ N := by omega
  have bN2 : N ≤ 1048576 := by omega
  have bF : F ≤ 1048576 := by omega
  have bNF : n0 + F ≤ N := by omega
  have bF6 : j6 + m.size ≤ F := by omega
  have b5' : j4 + n3 ≤ j5 := by omega
  clear u1 u2 u3 u4 p1 p2 p3 p4 b5 b7 hN hP0 hfr hat hown2 hupd2 hown1 hb1 hNl hv2 B5 hs1 h0 h3
  have dd : decide ((N : Int) < (n0 : Int) + 5) = false := by simp; omega
  go_wp2
  go_loopw [16] (fun i wr => ∃ k : Nat, k ≤ n0 ∧ i = .int .i64 k ∧ ∃ n, wr = w2.drewN n) (fun i _ => n0 - (intOf i).toNat)
  case atStart => exact ⟨0, Nat.zero_le _, rfl, 0, rfl⟩
  case round =>
    obtain ⟨k, hk, rfl, nd, rfl⟩ := hrel
    by_cases hlt : k < n0
    · have hkb : k < bs.length := by rw [l0.out]; exact hlt
      obtain ⟨b, off, rfl, hbat⟩ := bat_of_src hs0 (by omega)
      have hc1 := hatL k hkb
      have hc2 := hbat k hkb
      rw [Nat.zero_add] at hc1
      have hi1 : (k : Int) < (N : Int) := by omega
      go_wp2
      go_quiet (fail)
      go_wp2
      go_roundw
      case rel => exact ⟨k + 1, by omega, by go_num, _, rfl⟩
      case measure => simp [intOf]; omega
    · generalize hWd : w2.drewN nd = W
      have HW0 : Hid (w2.drewN nd = W) := hWd
      have hatW : BAt W g n0 fr := hWd ▸ hatR.drewN nd
      have hs3W : SrcB w'.heap.size W a3 n3 cap3 r := by
        rw [← hWd]
        exact hs3.below (below_drewN'' (Below.refl _ _) nd)
      have hbwW : Below w'.heap.size w' W := by rw [← hWd]; exact below_drewN'' hbw nd
      clear hWd hatL hatR hs0 hs3 hbw
      have hNF : N - n0 = F := by have := HE.out; omega
      have hne : ¬ cap = n0 := by omega
      have i0 : (0 : Int) ≤ (n0 : Int) := by omega
      have i1 : (n0 : Int) ≤ (N : Int) := by omega
      have i2 : (n0 : Int) ≤ (cap : Int) := by omega
      have f0 : 0 < F := by omega
      have f1 : (1 : Int) < (F : Int) := by omega
      have f2 : (2 : Int) < (F : Int) := by omega
      have f3 : (3 : Int) < (F : Int) := by omega
      have f4 : (4 : Int) < (F : Int) := by omega
      have hc0 := hatW.at hP.out.h0
      have hc1 := hatW.at hP.out.h1
      have hc2 := hatW.at hP.out.h2
      have hc3 := hatW.at hP.out.h3
      have hc4 := hatW.at hP.out.kind
      rw [toU8 (Nat.mod_lt _ (by omega))] at hc0 hc1 hc2 hc3
      rw [Nat.add_zero] at hc0
      obtain ⟨y0, e0⟩ : ∃ y, y = (F - 4) / 16777216 % 256 := ⟨_, rfl⟩
      obtain ⟨y1, e1⟩ : ∃ y, y = (F - 4) / 65536 % 256 := ⟨_, rfl⟩
      obtain ⟨y2, e2⟩ : ∃ y, y = (F - 4) / 256 % 256 := ⟨_, rfl⟩
      obtain ⟨y3, e3⟩ : ∃ y, y = (F - 4) % 256 := ⟨_, rfl⟩
      rw [← e0] at hc0
      rw [← e1] at hc1
      rw [← e2] at hc2
      rw [← e3] at hc3
      have HY : Hid (y0 = (F - 4) / 16777216 % 256 ∧ y1 = (F - 4) / 65536 % 256 ∧ y2 = (F - 4) / 256 % 256 ∧ y3 = (F - 4) % 256) := ⟨e0, e1, e2, e3⟩
      have q0 : y0 < 256 := by omega
      have q1 : y1 < 256 := by omega
      have q2 : y2 < 256 := by omega
      have q3 : y3 < 256 := by omega
      clear e0 e1 e2 e3
      go_wp2
      go_quiet (fail)
      rw [join4 (F - 4) (by omega) y0 y1 y2 y3 (by rw [HY.out.1]) (by rw [HY.out.2.1]) (by rw [HY.out.2.2.1]) (by rw [HY.out.2.2.2])]
      rw [show ((F - 4 : Nat) : Int) = (F : Int) - 4 by omega]
      generalize hVd : W.drewN nq = V
      have HV0 : Hid (W.drewN nq = V) := hVd
      have hatV : BAt V g n0 fr := hVd ▸ hatW.drewN nq
      have hs3V : SrcB w'.heap.size V a3 n3 cap3 r := by
        rw [← hVd]
        exact hs3W.below (below_drewN'' (Below.refl _ _) nq)
      have hbwV : Below w'.heap.size w' V := by rw [← hVd]; exact below_drewN'' hbwW nq
      have hk4 : V.cell? ⟨g, n0 + 4, none⟩ = some (.int .u8 6) := by rw [← hVd, World.cell?_drewN]; exact hc4
      clear hVd hatW hs3W hbwW hc0 hc1 hc2 hc3 hc4 HY q0 q1 q2 q3 HW0 HV0
      go_wp2_with fail
      refine (zzUvarint_at g n0 F _ 5 j1 id 5 fr V rfl hid.out hP.out.len (by omega) hatV hP.out.d1 hP.out.e1).mono ?_
      rintro e w'' ⟨rfl, hw''⟩
      have hst := hatV.at hP.out.s1
      have f5 : (j1 : Int) < (F : Int) := by omega
      have f5' : decide ((F : Int) ≤ (j1 : Int)) = false := by simp; omega
      rw [hw'']
      clear hw''
      go_wp2_with fail
      refine (zzUvarint_at g n0 F _ (j1 + 1) j3 R _ fr V (by omega) hR.out.1 hP.out.len (by omega) hatV hP.out.d2 hP.out.e3).mono ?_
      rintro e w'' ⟨rfl, hw''⟩
      rw [hw'']
      clear hw''
      have hw1 : ((R : Int) != IntKind.u64.wrap rounds) = false := by rw [show IntKind.u64.wrap rounds = (R : Int) from hR.out.2.symm]; simp
      go_wp2_with fail
      refine (zzUvarint_at g n0 F _ j3 j4 n3 _ fr V rfl (by omega) hP.out.len (by omega) hatV (l3.out ▸ hP.out.d3) (l3.out ▸ hP.out.e4)).mono ?_
      rintro e w'' ⟨rfl, hw''⟩
      rw [hw'']
      clear hw''
      have hwn : IntKind.u64.wrap (n3 : Int) = (n3 : Int) := wraps_u64 _ (by omega) (by omega)
      have f6 : decide ((F : Int) - (j4 : Int) < (n3 : Int)) = false := by simp; omega
      have f6' : ¬ ((F : Int) - (j4 : Int) < (n3 : Int)) := by omega
      go_wp2
      go_loopw [24] (fun i wr => ∃ k : Nat, k ≤ n3 ∧ i = .int .i64 k ∧ ∃ n, wr = V.drewN n) (fun i _ => n3 - (intOf i).toNat)
      case atStart => exact ⟨0, Nat.zero_le _, rfl, 0, rfl⟩
      case round =>
        obtain ⟨kr, hkr, rfl, nd, rfl⟩ := hrel
        by_cases hlt2 : kr < n3
        · have hkb : kr < r.length := by rw [l3.out]; exact hlt2
          obtain ⟨b, off, rfl, hbat⟩ := bat_of_src hs3V (by omega)
          have hc2 := hbat kr hkb
          have hc1 := hatV.at (hP.out.g4 kr _ (List.getElem?_eq_getElem hkb))
          obtain ⟨q, hq⟩ : ∃ q, q = j4 + kr := ⟨_, rfl⟩
          rw [← hq] at hc1
          have hqi : (j4 : Int) + (kr : Int) = (q : Int) := by omega
          have hi1 : (q : Int) < (F : Int) := by omega
          clear hq
          go_wp2
          go_quiet (fail)
          go_wp2
          go_roundw
          case rel => exact ⟨kr + 1, by omega, by go_num, _, rfl⟩
          case measure => simp [intOf]; omega
        · generalize hWd : V.drewN nd = U
          have hatU : BAt U g n0 fr := hWd ▸ hatV.drewN nd
          have hbwU : Below w'.heap.size w' U := by rw [← hWd]; exact below_drewN'' hbwV nd
          clear hWd hatV hbwV hs3V hk4
          have hj5 : (j4 : Int) + (n3 : Int) = (j5 : Int) := by have := HE.out; omega
          go_wp2_with fail
          refine (zzUvarint_at g n0 F _ j5 j6 m.size _ fr U rfl (by omega) hP.out.len (by omega) hatU hP.out.d5 hP.out.e6).mono ?_
          rintro e w'' ⟨rfl, hw''⟩
          rw [hw'']
          clear hw''
          have hwm : IntKind.u64.wrap (m.size : Int) = (m.size : Int) := wraps_u64 _ (by omega) (by omega)
          have f7 : decide ((F : Int) - (j6 : Int) < (m.size : Int)) = false := by simp; omega
          have f7' : ¬ ((F : Int) - (j6 : Int) < (m.size : Int)) := by omega
          go_wp2
          go_loopw [26] (fun i wr => ∃ k : Nat, k ≤ m.size ∧ i = .int .i64 k ∧ ∃ n, wr = U.drewN n) (fun i _ => m.size - (intOf i).toNat)
          case atStart => exact ⟨0, Nat.zero_le _, rfl, 0, rfl⟩
          case round =>
            obtain ⟨km, hkm, rfl, nd, rfl⟩ := hrel
            by_cases hlt3 : km < m.size
            · have hkb : km < m.data.toList.length := by have := Lib.size_eq m; omega
              have hc1 := hatU.at (hP.out.g6 km _ (List.getElem?_eq_getElem hkb))
              have hcm : m.data.toList[km]'hkb = m[km]'hlt3 := by rw [Array.getElem_toList]; rfl
              rw [hcm] at hc1
              clear hcm
              obtain ⟨q, hq⟩ : ∃ q, q = j6 + km := ⟨_, rfl⟩
              rw [← hq] at hc1
              have hqi : (j6 : Int) + (km : Int) = (q : Int) := by omega
              have hi1 : (q : Int) < (F : Int) := by omega
              clear hq
              go_wp2
              go_quiet (fail)
              go_wp2
              go_roundw
              case rel => exact ⟨km + 1, by omega, by go_num, _, rfl⟩
              case measure => simp [intOf]; omega
            · have hjF : (j6 : Int) + (m.size : Int) = (F : Int) := by have := HE.out; omega
              go_wp2
              go_ret
              exact ⟨rfl, below_drewN'' hbwU _⟩
end Go.Proofs.Qxb6630265a
