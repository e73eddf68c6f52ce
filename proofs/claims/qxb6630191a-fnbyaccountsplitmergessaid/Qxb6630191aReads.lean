import Derived.Test.Qxb6630191aProg
import Derived.Test.Qxb6630191aPlain
import Derived.WalkKit
import Derived.WalkSpells
import Derived.Deep.QuietTactic
import Derived.BigQuiet
import Derived.KernelRfl
namespace Go.Proofs.Qxb6630191a
open Go.RowKit
set_option linter.unusedVariables false

/-- The six cells of an order. -/
def ordCells (o : Ord) : List Value := [.int .i64 o.id, .int .i64 o.acc, .string o.bank, .string o.accTo, .int .i64 o.amt, .string o.ks]

/-- From the address on the orders lie, six cells each. -/
structure At (w : World) (b off : Nat) (os : List Ord) : Prop where
  c0 : ∀ i (h : i < os.length), w.cell? ⟨b, off + i * 6, none⟩ = some (.int .i64 os[i].id)
  c1 : ∀ i (h : i < os.length), w.cell? ⟨b, off + i * 6 + 1, none⟩ = some (.int .i64 os[i].acc)
  c2 : ∀ i (h : i < os.length), w.cell? ⟨b, off + i * 6 + 2, none⟩ = some (.string os[i].bank)
  c3 : ∀ i (h : i < os.length), w.cell? ⟨b, off + i * 6 + 3, none⟩ = some (.string os[i].accTo)
  c4 : ∀ i (h : i < os.length), w.cell? ⟨b, off + i * 6 + 4, none⟩ = some (.int .i64 os[i].amt)
  c5 : ∀ i (h : i < os.length), w.cell? ⟨b, off + i * 6 + 5, none⟩ = some (.string os[i].ks)

theorem Try.cells31 : Try.prog.cellsOf 31 = 6 := by kernel_rfl

theorem ret_int {k : IntKind} {a b : Int} (h : a = b) : Ending.returned (.int k a) = .returned (.int k b) := by rw [h]

theorem fpos_hit {os : List Ord} {a : Int} {k : Nat} (h : k < os.length) (e : (os[k].acc == a) = true) (hk : k ≤ fpos os a) : fpos os a = k := by
  rcases Nat.lt_or_ge k (fpos os a) with hlt | hge
  · have := List.not_of_lt_findIdx (xs := os) (p := fun o => o.acc == a) hlt
    simp at e this
    exact absurd e this
  · omega

theorem fpos_miss {os : List Ord} {a : Int} {k : Nat} (h : k < os.length) (e : (os[k].acc == a) = false) (hk : k ≤ fpos os a) : k + 1 ≤ fpos os a := by
  rcases Nat.lt_or_ge k (fpos os a) with hlt | hge
  · omega
  · have hkk : fpos os a = k := by omega
    have h2 : ∀ j (hj : j < os.length), j = List.findIdx (fun o => o.acc == a) os → (os[j].acc == a) = true := by
      intro j hj ej
      subst ej
      exact List.findIdx_getElem (xs := os) (p := fun o => o.acc == a) (w := hj)
    have := h2 k h hkk.symm
    rw [e] at this
    cases this

set_option maxHeartbeats 400000 in
theorem firstPos_any (b off cap : Nat) (a : Int) (os : List Ord) (w : World) (hs : os.length ≤ 4096) (hat : At w b off os) (ha : fpos os a < os.length) :
    Calls Try.prog 9 #[.slice (some ⟨b, off, none⟩) os.length cap, .int .i64 a] w fun e w' => e = .returned (.int .i64 (fpos os a)) ∧ w' = w := by
  go_enter Try.func9, Try.ntmps9
  go_wp2
  go_loop [5] (fun i => ∃ k : Nat, k ≤ fpos os a ∧ i = .int .i64 k) (fun i => os.length - (intOf i).toNat)
  case atStart => exact ⟨0, Nat.zero_le _, rfl⟩
  case round =>
    obtain ⟨k, hk, rfl⟩ := hrel
    have hlt : k < os.length := by omega
    have hc := hat.c1 k hlt
    go_wp2
    · have e : (os[k].acc == a) = true := by assumption
      go_ret
      exact ⟨ret_int (by rw [fpos_hit hlt e hk]), rfl⟩
    · have e : (os[k].acc == a) = false := by assumption
      go_round
      case rel => exact ⟨k + 1, fpos_miss hlt e hk, by go_num⟩
      case measure => simp [intOf]; omega

set_option maxHeartbeats 800000 in
theorem isFilter_any (gb goff gcap b off cap : Nat) (a : Int) (os : List Ord) (w : World) (hs : os.length ≤ 4096) (hat : At w b off os) (hg : At w gb goff (only a os)) (h0 : 0 < os.length) :
    Calls Try.prog 10 #[.slice (some ⟨gb, goff, none⟩) (only a os).length gcap, .slice (some ⟨b, off, none⟩) os.length cap, .int .i64 a] w fun e w' => e = .returned (.bool true) ∧ ∃ n, w' = w.drewN n := by
  have hgl := length_only_le a os
  go_enter Try.func10, Try.ntmps10
  go_wp2
  go_loopw [7, 8] (fun m i wr => ∃ k : Nat, k ≤ os.length ∧ i = .int .i64 k ∧ m = .int .i64 (only a (os.take k)).length ∧ ∃ n, wr = w.drewN n) (fun _ i _ => os.length - (intOf i).toNat)
  case atStart => exact ⟨0, Nat.zero_le _, rfl, rfl, 0, rfl⟩
  case round =>
    obtain ⟨k, hk, rfl, rfl, nd, rfl⟩ := hrel
    have hml := only_take_le a os k
    by_cases hlt : k < os.length
    · have hc0 := hat.c0 k hlt
      have hc1 := hat.c1 k hlt
      have hc2 := hat.c2 k hlt
      have hc3 := hat.c3 k hlt
      have hc4 := hat.c4 k hlt
      have hc5 := hat.c5 k hlt
      cases e : (os[k].acc == a)
      · go_wp2
        go_roundw
        case rel => exact ⟨k + 1, by omega, by go_num, by rw [only_take_succ a os k hlt, e]; simp, nd, rfl⟩
        case measure => simp [intOf]; omega
      · have hit := only_hit a os k hlt e
        obtain ⟨m, hm⟩ : ∃ m, m = (only a (os.take k)).length := ⟨_, rfl⟩
        rw [← hm] at hit ⊢
        have hmg : m < (only a os).length := by
          rcases Nat.lt_or_ge m (only a os).length with h | h
          · exact h
          · rw [List.getElem?_eq_none h] at hit; cases hit
        rw [List.getElem?_eq_getElem hmg] at hit
        have hg0 := hg.c0 m hmg
        have hg1 := hg.c1 m hmg
        have hg2 := hg.c2 m hmg
        have hg3 := hg.c3 m hmg
        have hg4 := hg.c4 m hmg
        have hg5 := hg.c5 m hmg
        simp only [Option.some.injEq] at hit
        rw [hit] at hg0 hg1 hg2 hg3 hg4 hg5
        have Hm : Hid (m = (only a (os.take k)).length) := hm
        clear hm hit hml
        go_wp2
        go_quiet (fail)
        go_wp2
        go_roundw
        case rel => exact ⟨k + 1, by omega, by go_num, by rw [only_take_succ a os k hlt, e, Hm.out]; simp, _, rfl⟩
        case measure => simp [intOf]; omega
    · have hke : k = os.length := by omega
      have hf : only a (os.take k) = only a os := by rw [List.take_of_length_le (by omega)]
      go_wp2
      go_ret
      exact ⟨by rw [hf]; simp, nd, rfl⟩

/-- The orders lie behind a slice's address; of an empty slice nothing is asked. -/
def Lie (w : World) (ao : Option Addr) (os : List Ord) : Prop := os = [] ∨ ∃ b off, ao = some ⟨b, off, none⟩ ∧ At w b off os

/-- It returned a bool, whichever. -/
def IsB (e : Ending) : Prop := ∃ r, e = .returned (.bool r)
theorem isB_mk (r : Bool) : IsB (.returned (.bool r)) := ⟨r, rfl⟩

set_option maxHeartbeats 800000 in
theorem zzBytes5_some (b off cap : Nat) (os : List Ord) (w : World) (hs : os.length ≤ 9223372036854775807) (hat : At w b off os) :
    Calls Try.prog 5 #[.slice (some ⟨b, off, none⟩) os.length cap] w fun e w' => IsB e ∧ w' = w := by
  go_enter Try.func5, Try.ntmps5
  go_wp2
  · go_ret; exact ⟨isB_mk _, rfl⟩
  · go_loop [3, 4] (fun m i => ∃ k : Nat, k ≤ os.length ∧ i = .int .i64 k ∧ ∃ z : Int, m = .int .i64 z) (fun _ i => os.length - (intOf i).toNat)
    case atStart => exact ⟨0, Nat.zero_le _, rfl, _, rfl⟩
    case round =>
      obtain ⟨k, hk, rfl, z, rfl⟩ := hrel
      by_cases hlt : k < os.length
      · have hc2 := hat.c2 k hlt
        have hc3 := hat.c3 k hlt
        have hc5 := hat.c5 k hlt
        go_wp2
        all_goals first
          | (go_ret; exact ⟨isB_mk _, rfl⟩)
          | (go_round
             case rel => exact ⟨k + 1, by omega, by go_num, _, rfl⟩
             case measure => simp [intOf]; omega)
      · go_wp2
        go_ret
        exact ⟨isB_mk _, rfl⟩

set_option maxHeartbeats 800000 in
theorem zzBytes5_none (ao : Option Addr) (cap : Nat) (os : List Ord) (w : World) (hs : os.length ≤ 9223372036854775807) (h0 : os.length = 0) :
    Calls Try.prog 5 #[.slice ao os.length cap] w fun e w' => IsB e ∧ w' = w := by
  go_enter Try.func5, Try.ntmps5
  go_wp2
  go_loop [3, 4] (fun m i => ∃ k : Nat, k ≤ os.length ∧ i = .int .i64 k ∧ ∃ z : Int, m = .int .i64 z) (fun _ i => os.length - (intOf i).toNat)
  case atStart => exact ⟨0, Nat.zero_le _, rfl, _, rfl⟩
  case round =>
    obtain ⟨k, hk, rfl, z, rfl⟩ := hrel
    go_wp2
    go_ret
    exact ⟨isB_mk _, rfl⟩

set_option maxHeartbeats 800000 in
theorem zzBytes11_some (b off cap : Nat) (kk : Int) (os : List Ord) (w : World) (hs : os.length ≤ 9223372036854775807) (hat : At w b off os) :
    Calls Try.prog 11 #[.slice (some ⟨b, off, none⟩) os.length cap, .int .i64 kk] w fun e w' => IsB e ∧ w' = w := by
  go_enter Try.func11, Try.ntmps11
  go_wp2
  · go_ret; exact ⟨isB_mk _, rfl⟩
  · go_loop [5, 6] (fun m i => ∃ k : Nat, k ≤ os.length ∧ i = .int .i64 k ∧ ∃ z : Int, m = .int .i64 z) (fun _ i => os.length - (intOf i).toNat)
    case atStart => exact ⟨0, Nat.zero_le _, rfl, _, rfl⟩
    case round =>
      obtain ⟨k, hk, rfl, z, rfl⟩ := hrel
      by_cases hlt : k < os.length
      · have hc2 := hat.c2 k hlt
        have hc3 := hat.c3 k hlt
        have hc5 := hat.c5 k hlt
        go_wp2
        all_goals first
          | (go_ret; exact ⟨isB_mk _, rfl⟩)
          | (go_round
             case rel => exact ⟨k + 1, by omega, by go_num, _, rfl⟩
             case measure => simp [intOf]; omega)
      · go_wp2
        go_ret
        exact ⟨isB_mk _, rfl⟩

set_option maxHeartbeats 800000 in
theorem zzBytes11_none (ao : Option Addr) (cap : Nat) (kk : Int) (os : List Ord) (w : World) (hs : os.length ≤ 9223372036854775807) (h0 : os.length = 0) :
    Calls Try.prog 11 #[.slice ao os.length cap, .int .i64 kk] w fun e w' => IsB e ∧ w' = w := by
  go_enter Try.func11, Try.ntmps11
  go_wp2
  go_loop [5, 6] (fun m i => ∃ k : Nat, k ≤ os.length ∧ i = .int .i64 k ∧ ∃ z : Int, m = .int .i64 z) (fun _ i => os.length - (intOf i).toNat)
  case atStart => exact ⟨0, Nat.zero_le _, rfl, _, rfl⟩
  case round =>
    obtain ⟨k, hk, rfl, z, rfl⟩ := hrel
    go_wp2
    go_ret
    exact ⟨isB_mk _, rfl⟩

set_option maxHeartbeats 800000 in
theorem over6_some (b off cap : Nat) (lim : Int) (os : List Ord) (w : World) (hs : os.length ≤ 9223372036854775807) (hat : At w b off os) :
    Calls Try.prog 6 #[.slice (some ⟨b, off, none⟩) os.length cap, .int .i64 lim] w fun e w' => IsB e ∧ w' = w := by
  go_enter Try.func6, Try.ntmps6
  go_wp2
  go_loop [5, 6] (fun m i => ∃ k : Nat, k ≤ os.length ∧ i = .int .i64 k ∧ ∃ z : Int, m = .int .i64 z) (fun _ i => os.length - (intOf i).toNat)
  case atStart => exact ⟨0, Nat.zero_le _, rfl, _, rfl⟩
  case round =>
    obtain ⟨k, hk, rfl, z, rfl⟩ := hrel
    by_cases hlt : k < os.length
    · have hc2 := hat.c2 k hlt
      have hc3 := hat.c3 k hlt
      have hc5 := hat.c5 k hlt
      go_wp2
      all_goals first
        | (go_ret; exact ⟨isB_mk _, rfl⟩)
        | (go_round
           case rel => exact ⟨k + 1, by omega, by go_num, _, rfl⟩
           case measure => simp [intOf]; omega)
    · go_wp2
      go_ret
      exact ⟨isB_mk _, rfl⟩

set_option maxHeartbeats 800000 in
theorem over6_none (ao : Option Addr) (cap : Nat) (lim : Int) (os : List Ord) (w : World) (hs : os.length ≤ 9223372036854775807) (h0 : os.length = 0) :
    Calls Try.prog 6 #[.slice ao os.length cap, .int .i64 lim] w fun e w' => IsB e ∧ w' = w := by
  go_enter Try.func6, Try.ntmps6
  go_wp2
  go_loop [5, 6] (fun m i => ∃ k : Nat, k ≤ os.length ∧ i = .int .i64 k ∧ ∃ z : Int, m = .int .i64 z) (fun _ i => os.length - (intOf i).toNat)
  case atStart => exact ⟨0, Nat.zero_le _, rfl, _, rfl⟩
  case round =>
    obtain ⟨k, hk, rfl, z, rfl⟩ := hrel
    go_wp2
    go_ret
    exact ⟨isB_mk _, rfl⟩

end Go.Proofs.Qxb6630191a
