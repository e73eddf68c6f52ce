import Derived.Test.Qxb6630312aDoorLay
import Derived.Test.Qxb6630312aDoorPlain
import Derived.Lib.AtoiErrMem
import Derived.Below
import Derived.Lib.Strings
namespace Go.Proofs.Qxb6630312aDoor
open Go.Shelf Go.RowKit
set_option linter.unusedVariables false

/-- The two variables that the parse's errors read. -/
structure Vars (w : World) : Prop where
  syn : ∃ t p, w.cell? ⟨0, 0, none⟩ = some (.iface t p)
  rng : ∃ t p, w.cell? ⟨1, 0, none⟩ = some (.iface t p)

theorem Vars.below {w w' : World} {B : Nat} (h : Vars w) (hb : Below B w w') (hB : 2 ≤ B) : Vars w' := by
  obtain ⟨⟨t, p, h0⟩, ⟨t', p', h1⟩⟩ := h
  exact ⟨⟨t, p, (hb.cell (show (⟨0, 0, none⟩ : Addr).block < B by show 0 < B; omega)).trans h0⟩, ⟨t', p', (hb.cell (show (⟨1, 0, none⟩ : Addr).block < B by show 1 < B; omega)).trans h1⟩⟩

theorem Vars.size {w : World} (h : Vars w) : 2 ≤ w.heap.size := by
  obtain ⟨_, ⟨t', p', h1⟩⟩ := h
  have := World.block_lt_of_cell? w _ h1
  exact this

theorem cons_of (s : ByteArray) (h : 0 < s.size) : ∃ r, s.data.toList = s[0] :: r := by
  have hs : s.data.toList.length = s.size := Array.length_toList
  cases e : s.data.toList with
  | nil => rw [e] at hs; simp at hs; omega
  | cons c r =>
    refine ⟨r, ?_⟩
    have h0 : s.data.toList[0]'(by omega) = s[0] := by rw [Array.getElem_toList]; rfl
    have h1 : s.data.toList[0]'(by omega) = c := by simp [e]
    rw [← h0, h1]

theorem nil_of (s : ByteArray) (h : ¬ 0 < s.size) : s.data.toList = [] := by
  have hs : s.data.toList.length = s.size := Array.length_toList
  exact List.length_eq_zero_iff.1 (by omega)

def idTuple (o : Option Nat) : Value := .tuple #[.int .i64 ((o.getD 0 : Nat) : Int), .bool o.isSome]
theorem idTuple_none : idTuple none = .tuple #[.int .i64 0, .bool false] := rfl

set_option maxHeartbeats 1600000 in
set_option maxRecDepth 100000 in
theorem parseID_any (s : ByteArray) (hlim : s.size ≤ 281474976710656) (w : World) (hV : Vars w) :
    Calls Tryd.prog 6 #[.string s] w fun e w' => e = .returned (idTuple (pid s.data.toList)) ∧ Below w.heap.size w w' := by
  by_cases h0 : 0 < s.size
  · obtain ⟨r, hr⟩ := cons_of s h0
    have hemp : s.toList.isEmpty = false := by rw [Lib.toList_data, hr]; rfl
    obtain ⟨l, hl⟩ : ∃ l, l = s.data.toList := ⟨_, rfl⟩
    rw [← hl] at hr ⊢
    have HR : Hid (l = s[0] :: r) := hr
    have HL : Hid (l = s.data.toList) := hl
    clear hr hl
    by_cases h1 : ((s[0]'h0).toNat : Int) < 49
    · have hp : pid l = none := by rw [HR.out]; exact pid_head (by omega)
      rw [hp, idTuple_none]
      go_enter Tryd.func6, Tryd.ntmps6
      go_wp2
      go_ret2
      exact ⟨rfl, Below.refl _ _⟩
    by_cases h2 : (57 : Int) < (s[0]'h0).toNat
    · have hp : pid l = none := by rw [HR.out]; exact pid_head (by omega)
      rw [hp, idTuple_none]
      go_enter Tryd.func6, Tryd.ntmps6
      go_wp2
      go_ret2
      exact ⟨rfl, Below.refl _ _⟩
    have k1 := parse_ok (s[0]'h0) r (by omega) (by omega)
    have k2 := parse_none (s[0]'h0) r (by omega) (by omega)
    rw [← HR.out] at k1 k2
    cases hpi : Lib.parseIntB 64 l
    · rename_i v
      obtain ⟨hp, hv⟩ := k1 v hpi
      rw [HL.out] at hpi
      obtain ⟨u, hu⟩ : ∃ u : Nat, v = (u : Int) := ⟨v.toNat, by omega⟩
      subst hu
      rw [hp]
      have e : idTuple (some (u : Int).toNat) = .tuple #[.int .i64 (u : Int), .bool true] := rfl
      rw [e]
      clear k1 k2 hp e
      go_enter Tryd.func6, Tryd.ntmps6
      go_wp2_with fail
      refine (Tryd.parseInt_ok s (by omega) _ hpi w).mono ?_
      rintro e w' ⟨rfl, hw⟩
      have hb : Below w.heap.size w w' := by
        rcases hw with rfl | ⟨t, rfl⟩
        · exact Below.refl _ _
        · exact Lib.bytesWorld_below _ _ _
      clear hw
      go_wp2
      go_ret2
      exact ⟨rfl, hb⟩
    · rw [k2 (fun v h => by rw [hpi] at h; cases h), idTuple_none]
      rw [HL.out] at hpi
      obtain ⟨⟨t, p, hv⟩, _⟩ := hV
      clear k1 k2
      go_enter Tryd.func6, Tryd.ntmps6
      go_wp2_with fail
      refine (Tryd.parseInt_noNumber s hlim hpi _ w hv (.inr ⟨t, p, rfl⟩)).mono ?_
      rintro e w' ⟨t', N, rfl, hb⟩
      go_wp2
      go_ret2
      exact ⟨rfl, hb⟩
    · rw [k2 (fun v h => by rw [hpi] at h; cases h), idTuple_none]
      rw [HL.out] at hpi
      obtain ⟨_, ⟨t, p, hv⟩⟩ := hV
      clear k1 k2
      go_enter Tryd.func6, Tryd.ntmps6
      go_wp2_with fail
      refine (Tryd.parseInt_range s hlim hpi _ w hv (.inr ⟨t, p, rfl⟩)).mono ?_
      rintro e w' ⟨t', N, rfl, hb⟩
      go_wp2
      go_ret2
      exact ⟨rfl, hb⟩
  · have hl := nil_of s h0
    have hemp : s.toList.isEmpty = true := by rw [Lib.toList_data, hl]; rfl
    rw [hl]
    have e : idTuple (pid []) = .tuple #[.int .i64 0, .bool false] := rfl
    rw [e]
    clear hl
    go_enter Tryd.func6, Tryd.ntmps6
    go_wp2
    go_ret2
    exact ⟨rfl, Below.refl _ _⟩

def slex (a b : ByteArray) : Bool := if a.size = b.size then Op.bytesLess a.toList b.toList else decide (a.size < b.size)

set_option maxHeartbeats 1600000 in
theorem shortlex_any (a b : ByteArray) (w : World) :
    Calls Tryd.prog 9 #[.string a, .string b] w fun e w' => e = .returned (.bool (slex a b)) ∧ w' = w := by
  by_cases h : a.size = b.size
  · have hs : slex a b = Op.bytesLess a.toList b.toList := by unfold slex; rw [if_pos h]
    rw [hs]
    have hb : ((a.size : Int) != (b.size : Int)) = false := by rw [h]; simp
    go_enter Tryd.func9, Tryd.ntmps9
    go_wp2
    go_ret
    exact ⟨rfl, rfl⟩
  · have hs : slex a b = decide (a.size < b.size) := by unfold slex; rw [if_neg h]
    rw [hs]
    have hb : ((a.size : Int) != (b.size : Int)) = true := by simp; omega
    go_enter Tryd.func9, Tryd.ntmps9
    go_wp2
    go_ret
    exact ⟨rfl, rfl⟩
end Go.Proofs.Qxb6630312aDoor
