import Derived.Test.Qxb6630265aFrame
namespace Go.Proofs.Qxb6630265a
open Go.RowKit
set_option linter.unusedVariables false

/-- The box that holds the answer. -/
def answerCells (st : Nat) (ra : Option Addr) (rn rc : Nat) (m : ByteArray) (rounds : Int) : Array Value := #[.int .u8 st, .slice ra rn rc, .string m, .int .i64 rounds]

structure BoxAt (w : World) (bb : Nat) (st : Nat) (ra : Option Addr) (rn rc : Nat) (m : ByteArray) (rounds : Int) (v : Value) : Prop where
  c0 : w.cell? ⟨bb, 0, none⟩ = some (.int .u8 st)
  c1 : w.cell? ⟨bb, 1, none⟩ = some (.slice ra rn rc)
  c2 : w.cell? ⟨bb, 2, none⟩ = some (.string m)
  c3 : w.cell? ⟨bb, 3, none⟩ = some (.int .i64 rounds)
  lt : bb < w.heap.size
  far : v.ownBlock ≠ some bb

theorem BoxAt.upd {w w' : World} {bb st : Nat} {ra : Option Addr} {rn rc : Nat} {m : ByteArray} {rounds : Int} {v v' : Value} (h : BoxAt w bb st ra rn rc m rounds v) (hu : Upd w v w' v') : BoxAt w' bb st ra rn rc m rounds v' :=
  ⟨(hu.cell (a := ⟨bb, 0, none⟩) h.lt h.far).trans h.c0, (hu.cell (a := ⟨bb, 1, none⟩) h.lt h.far).trans h.c1, (hu.cell (a := ⟨bb, 2, none⟩) h.lt h.far).trans h.c2, (hu.cell (a := ⟨bb, 3, none⟩) h.lt h.far).trans h.c3,
    Nat.lt_of_lt_of_le h.lt hu.grown.size, hu.far h.lt h.far⟩

theorem boxAt_new {B : Nat} {w : World} {v : Value} {l : List UInt8} (ho : OwnB B w v l) (st : Nat) (ra : Option Addr) (rn rc : Nat) (m : ByteArray) (rounds : Int) :
    BoxAt (w.alloc (.cells #[.int .u8 st, .slice ra rn rc, .string m, .int .i64 rounds] 28)) w.heap.size st ra rn rc m rounds v :=
  ⟨by simp, by simp, by simp, by simp, by simp, ho.far⟩

theorem frame_lists (l : List UInt8) (id : Nat) (st : UInt8) (r : List UInt8) (m : ByteArray) (rounds : Nat) (L : List UInt8)
    (hL : L = l ++ [0, 0, 0, 0, 6] ++ Lib.uvarint id ++ [st] ++ Lib.uvarint rounds ++ Lib.uvarint r.length ++ r ++ Lib.uvarint m.size ++ m.data.toList) :
    L.take l.length ++ (be4 (L.length - l.length - 4) ++ L.drop (l.length + 4)) = l ++ frame id st r m rounds := by
  have e : L = l ++ ([0, 0, 0, 0] ++ payload id st r m rounds) := by rw [hL]; simp [payload]
  rw [e]
  unfold frame
  have e1 : (l ++ ([0, 0, 0, 0] ++ payload id st r m rounds)).length - l.length - 4 = (payload id st r m rounds).length := by simp
  have e2 : (l ++ ([0, 0, 0, 0] ++ payload id st r m rounds)).take l.length = l := List.take_left' rfl
  have e3 : (l ++ ([0, 0, 0, 0] ++ payload id st r m rounds)).drop (l.length + 4) = payload id st r m rounds := by
    rw [← List.drop_drop, List.drop_left' rfl]
    rfl
  rw [e1, e2, e3]

set_option maxHeartbeats 3200000 in
set_option maxRecDepth 100000 in
theorem appendAnswer_any (B : Nat) (sv : Value) (l : List UInt8) (id : Nat) (hid : id < 18446744073709551616) (st : UInt8) (ra : Option Addr) (rn rc : Nat) (r : List UInt8) (m : ByteArray) (rounds : Int) (R : Nat) (hR : R < 18446744073709551616) (hRr : (R : Int) = rounds % 18446744073709551616)
    (w : World) (hown : OwnB B w sv l) (hBw : B ≤ w.heap.size) (hsrc : SrcB B w ra rn rc r) (hr : r.length ≤ 1048576) (hm : m.size ≤ 1048576) (hlim : l.length ≤ 1048576) :
    Calls Try.prog 7 #[sv, .int .u64 id, .agg #[.int .u8 st.toNat, .slice ra rn rc, .string m, .int .i64 rounds]] w fun e w' => ∃ v', e = .returned v' ∧ OwnB B w' v' (l ++ frame id st r m R) ∧ Upd w sv w' v' := by
  obtain ⟨i0, hi, hz0, hz1, hz2⟩ := info_parts Try.info5
  have hbx := boxAt_new hown st.toNat ra rn rc m rounds
  have hwr : IntKind.u64.wrap rounds = (R : Int) := by rw [IntKind.wrap_u64, ← hRr]
  have HWR : Hid (IntKind.u64.wrap rounds = (R : Int)) := hwr
  clear hwr hRr
  have u1 := Lib.uvarint_length64 hid
  have u2 := Lib.uvarint_length64 hR
  have u3 := Lib.uvarint_length64 (x := r.length) (by omega)
  have u4 := Lib.uvarint_length64 (x := m.size) (by omega)
  go_enter Try.func7, Try.ntmps7
  go_wp2_with fail
  refine (beginFrame_any B sv l _ (hown.alloc _) (by simp; omega) (by omega)).mono ?_
  rintro e w1 ⟨v1, rfl, hown1, hupd1⟩
  have hb1 := hbx.upd hupd1
  have hU1 := Upd.alloc _ hupd1
  have hs1 := hupd1.grown.size
  simp at hs1
  obtain ⟨l1, hl1⟩ : ∃ x, x = l ++ [0, 0, 0, 0, 6] := ⟨_, rfl⟩
  have n1 : l1.length = l.length + 5 := by rw [hl1]; simp
  rw [← hl1] at hown1
  clear hupd1 hbx
  go_wp2_with fail
  refine (auv B id hid v1 l1 _ hown1 (by omega) (by omega)).mono ?_
  rintro e w2 ⟨v2, rfl, hown2, hupd2⟩
  have hb2 := hb1.upd hupd2
  have hU2 := hU1.trans hupd2
  have hs2 := hupd2.grown.size
  obtain ⟨l2, hl2⟩ : ∃ x, x = l1 ++ Lib.uvarint id := ⟨_, rfl⟩
  have n2 : l2.length ≤ l.length + 15 := by rw [hl2]; simp; omega
  rw [← hl2] at hown2
  have HL : Hid (l1 = l ++ [0, 0, 0, 0, 6] ∧ l2 = l1 ++ Lib.uvarint id ∧ l1.length = l.length + 5) := ⟨hl1, hl2, n1⟩
  clear hupd2 hb1 hown1 hl1 hl2 n1
  have bc0 := hb2.c0
  go_wp2_with (at_builtin; refine wpList_append_own_at _ rfl _ _ 22 rfl B 5 i0 (.int .u8 0) 1 1 Try.underlying22 hi hz0 hz1 hz2 rfl (by decide) _ _ _ rfl (hown2.alloc _) ⟨w2.heap.size, 0, none⟩ 1 1 [Value.int .u8 (st.toNat : Int)] rfl rfl (cell_one_new _ _ _) (by simp [Value.oneCell']) (by unfold maxLen; omega) (by omega) (by simp; omega) ?_; intro v3 w3 hown3 hgrow3 _ hloc3; have hupd3 : Upd w2 v2 w3 v3 := Upd.alloc _ (Upd.mk' hgrow3 hloc3 (by simp)); have hb3 := hb2.upd hupd3; have bc3 := hb3.c3)
  have ho3 : OwnB B w3 v3 (l2 ++ [st]) := ownB_of (n := 1) rfl hown3
  have hU3 := hU2.trans hupd3
  have hs3 := hupd3.grown.size
  obtain ⟨l3, hl3⟩ : ∃ x, x = l2 ++ [st] := ⟨_, rfl⟩
  have n3 : l3.length ≤ l.length + 16 := by rw [hl3]; simp; omega
  rw [← hl3] at ho3
  have HL3 : Hid (l3 = l2 ++ [st]) := hl3
  clear hown3 hgrow3 hloc3 hupd3 hb2 bc0 hown2 hl3
  rw [HWR.out]
  refine (auv B R hR v3 l3 _ ho3 (by omega) (by omega)).mono ?_
  rintro e w4 ⟨v4, rfl, hown4, hupd4⟩
  have hb4 := hb3.upd hupd4
  have hU4 := hU3.trans hupd4
  have hs4 := hupd4.grown.size
  obtain ⟨l4, hl4⟩ : ∃ x, x = l3 ++ Lib.uvarint R := ⟨_, rfl⟩
  have n4 : l4.length ≤ l.length + 26 := by rw [hl4]; simp; omega
  rw [← hl4] at hown4
  have HL4 : Hid (l4 = l3 ++ Lib.uvarint R) := hl4
  have hsrc4 := hsrc.below (hU4.below (Below.refl _ _) hBw hown)
  clear hupd4 hb3 bc3 ho3 hl4
  have bc1 := hb4.c1
  go_wp2_with fail
  refine (astrBytes_any B v4 l4 ra rn rc r _ hown4 (by omega) hsrc4 hr (by omega)).mono ?_
  rintro e w5 ⟨v5, rfl, hown5, hupd5⟩
  have hb5 := hb4.upd hupd5
  have hU5 := hU4.trans hupd5
  have hs5 := hupd5.grown.size
  obtain ⟨l5, hl5⟩ : ∃ x, x = l4 ++ Lib.uvarint r.length ++ r := ⟨_, rfl⟩
  have n5 : l5.length ≤ l.length + 36 + r.length := by rw [hl5]; simp; omega
  rw [← hl5] at hown5
  have HL5 : Hid (l5 = l4 ++ Lib.uvarint r.length ++ r) := hl5
  clear hupd5 hb4 bc1 hown4 hl5
  have bc2 := hb5.c2
  go_wp2_with fail
  refine (astrString_any B v5 l5 m _ hown5 (by omega) hm (by omega)).mono ?_
  rintro e w6 ⟨v6, rfl, hown6, hupd6⟩
  have hU6 := hU5.trans hupd6
  have hs6 := hupd6.grown.size
  obtain ⟨l6, hl6⟩ : ∃ x, x = l5 ++ Lib.uvarint m.size ++ m.data.toList := ⟨_, rfl⟩
  have hmsz := Lib.size_eq m
  have n6 : l6.length ≤ l.length + 46 + r.length + m.size := by rw [hl6]; simp; omega
  have n6' : l.length + 5 ≤ l6.length := by
    have h5 := HL.out.2.2
    have h4 := congrArg List.length HL.out.2.1
    have h3 := congrArg List.length HL3.out
    have h2 := congrArg List.length HL4.out
    have h1 := congrArg List.length HL5.out
    have h0 := congrArg List.length hl6
    simp at h4 h3 h2 h1 h0
    omega
  rw [← hl6] at hown6
  have hfin := frame_lists l id st r m R l6 (by rw [hl6, HL5.out, HL4.out, HL3.out, HL.out.2.1, HL.out.1])
  have HF : Hid (l6.take l.length ++ (be4 (l6.length - l.length - 4) ++ l6.drop (l.length + 4)) = l ++ frame id st r m R) := hfin
  clear hupd6 hb5 bc2 hown5 hl6 hfin hmsz
  obtain ⟨g, cap, hv6, hg1, hg2, hcap⟩ := ownB_form hown6 (by omega)
  rw [hv6] at hown6 hU6 ⊢
  go_wp2_with fail
  refine (endFrame_any B g cap l6 l.length _ hown6 (by omega) n6' (by omega) hcap).mono ?_
  rintro e w7 ⟨rfl, hown7, hupd7⟩
  have hU7 := hU6.trans hupd7
  rw [HF.out] at hown7
  go_wp2
  go_ret
  exact ⟨_, rfl, hown7, hU7⟩
end Go.Proofs.Qxb6630265a
