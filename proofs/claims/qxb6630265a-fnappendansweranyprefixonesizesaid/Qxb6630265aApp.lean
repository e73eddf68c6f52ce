import Derived.Test.Qxb6630265aProg
import Derived.Test.Qxb6630265aMem
import Derived.Deep.RegionWith
import Derived.Deep.AppendLies
import Derived.Deep.QuietTactic
import Derived.BigQuiet
import Derived.KernelRfl
namespace Go.Proofs.Qxb6630265a
open Go.RowKit
set_option linter.unusedVariables false

theorem Try.info5 : (Try.prog.info? 5).map (fun i => (i.zero, i.size, i.bytes)) = some (some (.int .u8 0), 1, 1) := by kernel_rfl

set_option maxHeartbeats 1600000 in
set_option maxRecDepth 100000 in
theorem auv (B x : Nat) (hx : x < 18446744073709551616) (sv : Value) (l : List UInt8) (w : World) (hown : OwnB B w sv l) (hBw : B ≤ w.heap.size) (hlim : l.length + 10 ≤ 140737488355328) :
    Calls Try.prog 12 #[sv, .int .u64 x] w fun e w' => ∃ v', e = .returned v' ∧ OwnB B w' v' (l ++ Lib.uvarint x) ∧ Upd w sv w' v' := by
  obtain ⟨i0, hi, hz0, hz1, hz2⟩ := info_parts Try.info5
  have hlen := Lib.uvarint_length64 hx
  go_enter Try.func12, Try.ntmps12
  go_wp2
  go_loopw [0, 1] (fun vb vx wr => ∃ (y : Nat) (pre : List UInt8), vx = .int .u64 y ∧ y ≤ x ∧ Hid (Lib.uvarint x = pre ++ Lib.uvarint y) ∧ OwnB B wr vb (l ++ pre) ∧ Upd w sv wr vb)
    (fun _ vx _ => (intOf vx).toNat)
  case atStart => exact ⟨x, [], rfl, Nat.le_refl _, rfl, by simpa using hown, Upd.refl _ _⟩
  case round =>
    obtain ⟨y, pre, rfl, hy, hsplit, hown1, hupd⟩ := hrel
    have hpl : pre.length + (Lib.uvarint y).length ≤ 10 := by
      have h2 := congrArg List.length hsplit.out
      rw [List.length_append] at h2
      omega
    have hyp := Lib.uvarint_pos y
    have hws := hupd.grown.size
    have hll : (l ++ pre).length = l.length + pre.length := List.length_append
    have hlb : (l ++ pre).length + 1 ≤ 140737488355328 := by omega
    clear hll
    by_cases h128 : 128 ≤ y
    · have hor : bits .or .u8 ((y : Int) % 256) 128 = ((y % 128 + 128 : Nat) : Int) := by
        rw [Lib.u8_or128_any _ (by omega) (by omega)]
        omega
      go_wp2_with (at_builtin; refine wpList_append_own_at _ rfl _ _ 22 rfl B 5 i0 (.int .u8 0) 1 1 Try.underlying22 hi hz0 hz1 hz2 rfl (by decide) _ _ _ rfl (hown1.alloc _) ⟨wr.heap.size, 0, none⟩ 1 1 [Value.int .u8 ((y % 128 + 128 : Nat) : Int)] rfl rfl ?c1 ?c2 ?c3 ?c4 ?c5 ?_)
      case c1 =>
        intro j u hj
        match j, hj with
        | 0, hj => simp at hj; subst hj; simp [Addr.add]
      case c2 => intro u hu; simp at hu; subst hu; rfl
      case c3 => unfold maxLen; omega
      case c4 => omega
      case c5 => simp; omega
      intro v' w1 hown' hgrow _ hloc
      have hu1 : Upd w sv w1 v' := hupd.trans (Upd.alloc _ (Upd.mk' hgrow hloc (by simp)))
      have ho1 : OwnB B w1 v' (l ++ (pre ++ [(y % 128 + 128).toUInt8])) := by
        rw [← List.append_assoc]
        refine ownB_of (n := 1) rfl ?_
        have ec : Lib.byteCells [(y % 128 + 128).toUInt8] = [Value.int .u8 ((y % 128 + 128 : Nat) : Int)] := by
          have := Lib.byteCells_snoc [] (a := y % 128 + 128) (by omega)
          simpa [Lib.byteCells] using this
        rw [ec]
        have ec2 : ((y % 128 + 128 : Nat) : Int) = (y : Int) % 128 + 128 := by omega
        rw [ec2, List.length_append]
        exact hown'
      clear hown' hgrow hloc
      go_wp2
      go_roundw
      case rel => exact ⟨y / 128, pre ++ [(y % 128 + 128).toUInt8], by go_num, by omega, by show Lib.uvarint x = _; rw [hsplit.out, Lib.uvarint_big h128]; simp, ho1, hu1⟩
      case measure => simp [intOf]; omega
    · have hsm : Lib.uvarint y = [y.toUInt8] := Lib.uvarint_small (by omega)
      have HF : Hid (Lib.uvarint x = pre ++ [y.toUInt8]) := by show _ = _; rw [hsplit.out, hsm]
      clear hsplit hsm
      go_wp2_with (at_builtin; refine wpList_append_own_at _ rfl _ _ 22 rfl B 5 i0 (.int .u8 0) 1 1 Try.underlying22 hi hz0 hz1 hz2 rfl (by decide) _ _ _ rfl (hown1.alloc _) ⟨wr.heap.size, 0, none⟩ 1 1 [Value.int .u8 (y : Int)] rfl rfl ?c1 ?c2 ?c3 ?c4 ?c5 ?_)
      case c1 =>
        intro j u hj
        match j, hj with
        | 0, hj => simp at hj; subst hj; simp [Addr.add]
      case c2 => intro u hu; simp at hu; subst hu; rfl
      case c3 => unfold maxLen; omega
      case c4 => omega
      case c5 => simp; omega
      intro v' w1 hown' hgrow _ hloc
      have hu1 : Upd w sv w1 v' := hupd.trans (Upd.alloc _ (Upd.mk' hgrow hloc (by simp)))
      have ho1 : OwnB B w1 v' (l ++ Lib.uvarint x) := by
        rw [HF.out, ← List.append_assoc]
        refine ownB_of (n := 1) rfl ?_
        have ec : Lib.byteCells [y.toUInt8] = [Value.int .u8 (y : Int)] := by
          have := Lib.byteCells_snoc [] (a := y) (by omega)
          simpa [Lib.byteCells] using this
        rw [ec, List.length_append]
        exact hown'
      clear hown' hgrow hloc
      go_wp2
      go_ret
      exact ⟨v', rfl, ho1, hu1⟩

theorem bc5 : Lib.byteCells [0, 0, 0, 0, 6] = [.int .u8 0, .int .u8 0, .int .u8 0, .int .u8 0, .int .u8 6] := rfl

set_option maxHeartbeats 800000 in
theorem beginFrame_any (B : Nat) (sv : Value) (l : List UInt8) (w : World) (hown : OwnB B w sv l) (hBw : B ≤ w.heap.size) (hlim : l.length + 5 ≤ 1073741824) :
    Calls Try.prog 11 #[sv, .int .u8 6] w fun e w' => ∃ v', e = .returned (.tuple #[v', .int .i64 l.length]) ∧ OwnB B w' v' (l ++ [0, 0, 0, 0, 6]) ∧ Upd w sv w' v' := by
  obtain ⟨i0, hi, hz0, hz1, hz2⟩ := info_parts Try.info5
  obtain ⟨ao, cap, rfl⟩ := ownB_shape hown
  go_enter Try.func11, Try.ntmps11
  go_wp2_with (at_builtin; refine wpList_append_own_at _ rfl _ _ 22 rfl B 5 i0 (.int .u8 0) 1 1 Try.underlying22 hi hz0 hz1 hz2 rfl (by decide) _ _ _ rfl (hown.alloc _) ⟨w.heap.size, 0, none⟩ 5 5 [.int .u8 0, .int .u8 0, .int .u8 0, .int .u8 0, .int .u8 6] rfl rfl ?c1 ?c2 ?c3 ?c4 ?c5 ?_)
  case c1 => exact World.news_of_block (cs := #[.int .u8 0, .int .u8 0, .int .u8 0, .int .u8 0, .int .u8 6]) (t := 5) (fr := (0, 0)) (heap_alloc_new w _)
  case c2 => simp [Value.oneCell']
  case c3 => unfold maxLen; omega
  case c4 => omega
  case c5 => simp; omega
  intro v' w1 hown' hgrow _ hloc
  have hu1 : Upd w (.slice ao l.length cap) w1 v' := Upd.alloc _ (Upd.mk' hgrow hloc (by simp))
  have ho1 : OwnB B w1 v' (l ++ [0, 0, 0, 0, 6]) := ownB_of (n := 5) rfl (by rw [bc5]; exact hown')
  clear hown' hgrow hloc
  go_wp2
  go_ret2
  exact ⟨v', rfl, ho1, hu1⟩

set_option maxHeartbeats 800000 in
theorem astrBytes_any (B : Nat) (sv : Value) (l : List UInt8) (ra : Option Addr) (rn rc : Nat) (r : List UInt8) (w : World) (hown : OwnB B w sv l) (hBw : B ≤ w.heap.size) (hsrc : SrcB B w ra rn rc r) (hr : r.length ≤ 1048576) (hlim : l.length ≤ 1073741824) :
    Calls Try.prog 13 #[sv, .slice ra rn rc] w fun e w' => ∃ v', e = .returned v' ∧ OwnB B w' v' (l ++ Lib.uvarint r.length ++ r) ∧ Upd w sv w' v' := by
  obtain ⟨i0, hi, hz0, hz1, hz2⟩ := info_parts Try.info5
  have hu10 := Lib.uvarint_length64 (x := r.length) (by omega)
  have hrn : rn = r.length := by rcases hsrc with ⟨_, h, _, rfl⟩ | ⟨_, _, h, _⟩ <;> simp [h]
  subst hrn
  go_enter Try.func13, Try.ntmps13
  go_wp2_with fail
  refine (auv B r.length (by omega) sv l _ hown hBw (by omega)).mono ?_
  rintro e w1 ⟨v1, rfl, hown1, hupd1⟩
  have hsz := hupd1.grown.size
  have hsrc1 := hsrc.below (hupd1.below (Below.refl _ _) hBw hown)
  have hlen1 : (l ++ Lib.uvarint r.length).length ≤ 1073741824 + 10 := by rw [List.length_append]; omega
  obtain ⟨l1, hl1⟩ : ∃ l1, l1 = l ++ Lib.uvarint r.length := ⟨_, rfl⟩
  rw [← hl1] at hown1 hlen1
  have HL1 : Hid (l1 = _) := hl1
  clear hl1 hu10
  rcases hsrc1 with ⟨rfl, h0, rfl, rfl⟩ | ⟨ad, rfl, _, hc⟩
  · go_wp2_with (at_builtin; refine wpList_append_own_none rfl _ _ 22 rfl B 5 i0 1 Try.underlying22 hi _ _ _ rfl hown1 rfl ?_)
    go_wp2
    go_ret
    exact ⟨v1, rfl, by rw [← HL1.out]; simpa using hown1, hupd1⟩
  · go_wp2_with (at_builtin; refine wpList_append_own_at _ rfl _ _ 22 rfl B 5 i0 (.int .u8 0) 1 1 Try.underlying22 hi hz0 hz1 hz2 rfl (by decide) _ _ _ rfl hown1 ad r.length rc (Lib.byteCells r) rfl ?c0 ?c1 ?c2 ?c3 ?c4 ?c5 ?_)
    case c0 => rw [byteCells_length, Nat.mul_one]
    case c1 => exact fun j u hu => (hc j u hu).2
    case c2 => exact byteCells_one _
    case c3 => unfold maxLen; omega
    case c4 => omega
    case c5 => omega
    intro v' w2 hown' hgrow _ hloc
    have hu2 : Upd w sv w2 v' := hupd1.trans (Upd.mk' hgrow hloc rfl)
    have ho2 : OwnB B w2 v' (l1 ++ r) := ownB_of (n := r.length) rfl hown'
    clear hown' hgrow hloc
    go_wp2
    go_ret
    exact ⟨v', rfl, by rw [← HL1.out]; exact ho2, hu2⟩

set_option maxHeartbeats 800000 in
theorem astrString_any (B : Nat) (sv : Value) (l : List UInt8) (s : ByteArray) (w : World) (hown : OwnB B w sv l) (hBw : B ≤ w.heap.size) (hs : s.size ≤ 1048576) (hlim : l.length ≤ 1073741824) :
    Calls Try.prog 14 #[sv, .string s] w fun e w' => ∃ v', e = .returned v' ∧ OwnB B w' v' (l ++ Lib.uvarint s.size ++ s.data.toList) ∧ Upd w sv w' v' := by
  obtain ⟨i0, hi, hz0, hz1, hz2⟩ := info_parts Try.info5
  have hu10 := Lib.uvarint_length64 (x := s.size) (by omega)
  go_enter Try.func14, Try.ntmps14
  go_wp2_with fail
  refine (auv B s.size (by omega) sv l _ hown hBw (by omega)).mono ?_
  rintro e w1 ⟨v1, rfl, hown1, hupd1⟩
  have hsz := hupd1.grown.size
  have hlen1 : (l ++ Lib.uvarint s.size).length ≤ 1073741824 + 10 := by rw [List.length_append]; omega
  obtain ⟨l1, hl1⟩ : ∃ l1, l1 = l ++ Lib.uvarint s.size := ⟨_, rfl⟩
  rw [← hl1] at hown1 hlen1
  have HL1 : Hid (l1 = _) := hl1
  clear hl1 hu10
  go_wp2_with (at_builtin; refine wpList_append_string_at _ rfl _ _ 22 9 rfl B 5 i0 Try.underlying22 Try.underlying9 hi hz0 hz1 hz2 _ _ _ rfl hown1 s rfl (by omega) (by omega) ?_)
  intro v' w2 hown' hgrow hloc
  have hu2 : Upd w sv w2 v' := hupd1.trans (Upd.mk' hgrow hloc rfl)
  have ho2 : OwnB B w2 v' (l1 ++ s.data.toList) := ownB_of (n := s.size) (Lib.size_eq s) (by rw [← strCells_eq]; exact hown')
  clear hown' hgrow hloc
  go_wp2
  go_ret
  exact ⟨v', rfl, by rw [← HL1.out]; exact ho2, hu2⟩
end Go.Proofs.Qxb6630265a
