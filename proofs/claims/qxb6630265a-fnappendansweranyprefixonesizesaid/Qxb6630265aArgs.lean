import Derived.Test.Qxb6630265aUv
import Derived.OpenShut
namespace Go.Proofs.Qxb6630265a
open Go.RowKit
set_option linter.unusedVariables false

/-- WHAT THE WALK IS TOLD OF A SLICE OF INTEGERS THAT CAME IN (the shell's own word). -/
def IsRow (k : IntKind) (w : World) (a : Option Addr) (len cap : Nat) (zs : List Int) : Prop :=
  (a = none ∧ len = 0 ∧ cap = 0 ∧ zs = []) ∨
  ∃ x, a = some x ∧ len ≤ cap ∧ cap ≤ maxLen ∧ zs.length = cap ∧ (∀ i, i < zs.length → w.cell? (x.add i) = some (.int k (zs.getD i 0))) ∧ ∀ n ∈ zs, (Lit.int k n).wf = true

theorem wf_u8 {z : Int} (h : (Lit.int .u8 z).wf = true) : 0 ≤ z ∧ z < 256 := by
  have := bounds_u8 h
  omega

/-- The bytes of such a slice. -/
theorem src_of_row {w : World} {a : Option Addr} {len cap : Nat} {zs : List Int} (h : IsRow .u8 w a len cap zs) : ∃ bs : List UInt8, SrcB w.heap.size w a len cap bs ∧ bs.length = len ∧ len ≤ 9223372036854775807 := by
  rcases h with ⟨rfl, rfl, rfl, rfl⟩ | ⟨x, rfl, hl, hm, hz, hc, hw⟩
  · exact ⟨[], .inl ⟨rfl, rfl, rfl, rfl⟩, rfl, by omega⟩
  · have hlen : ((zs.take len).map (fun z => z.toNat.toUInt8)).length = len := by simp; omega
    refine ⟨(zs.take len).map (fun z => z.toNat.toUInt8), .inr ⟨x, rfl, hlen.symm, ?_⟩, hlen, by unfold maxLen at hm; omega⟩
    intro j u hu
    have hj : j < len := by
      rcases Nat.lt_or_ge j len with e | e
      · exact e
      · rw [List.getElem?_eq_none (by rw [byteCells_length, hlen]; exact e)] at hu; cases hu
    have hcj := hc j (by omega)
    have hzj : zs.getD j 0 = zs[j]'(by omega) := by simp [List.getD, List.getElem?_eq_getElem (show j < zs.length by omega)]
    have hb := wf_u8 (hw (zs[j]'(by omega)) (List.getElem_mem _))
    have hu' : u = .int .u8 (zs.getD j 0) := by
      simp only [Lib.byteCells, List.getElem?_map, List.getElem?_take, if_pos hj, List.getElem?_eq_getElem (show j < zs.length by omega), Option.map_some, Option.some.injEq] at hu
      rw [← hu, hzj]
      have : ((zs[j]'(by omega)).toNat.toUInt8).toNat = (zs[j]'(by omega)).toNat := toU8 (by omega)
      rw [this]
      congr 1
      omega
    refine ⟨?_, by rw [hu']; exact hcj⟩
    have := World.block_lt_of_cell? w _ hcj
    rw [add_block] at this
    exact this

/-- From the source to the cells as the walk reckons them. -/
theorem bat_of_src {B : Nat} {w : World} {a : Option Addr} {len cap : Nat} {bs : List UInt8} (h : SrcB B w a len cap bs) (h0 : 0 < bs.length) : ∃ b off, a = some ⟨b, off, none⟩ ∧ BAt w b off bs := by
  rcases h with ⟨_, _, _, rfl⟩ | ⟨ad, rfl, _, hc⟩
  · simp at h0
  · have key : ∀ j (hj : j < bs.length), w.cell? (ad.add j) = some (.int .u8 bs[j].toNat) := by
      intro j hj
      refine (hc j _ ?_).2
      simp [Lib.byteCells, List.getElem?_eq_getElem hj]
    have k0 := key 0 h0
    obtain ⟨b, off, spot⟩ := ad
    have hspot : spot = none := by
      have := World.cell?_spot k0
      simpa [Addr.add] using this
    subst hspot
    refine ⟨b, off, rfl, ?_⟩
    intro j hj
    have := key j hj
    have e : (⟨b, off, none⟩ : Addr).add j = ⟨b, off + j, none⟩ := by unfold Addr.add; split <;> simp_all
    rw [e] at this
    exact this

/-- From what the call owns to the cells. -/
theorem bat_of_own {B g n cap : Nat} {w : World} {l : List UInt8} (hn : n = l.length) (h : OwnB B w (.slice (some ⟨g, 0, none⟩) n cap) l) : BAt w g 0 l := by
  subst hn
  intro j hj
  rw [Nat.zero_add, World.ownsRow.cellAt h j (by omega)]
  simp [Lib.byteCells, List.getElem?_eq_getElem hj]

theorem BAt.below {B : Nat} {w w' : World} {g off : Nat} {l : List UInt8} (h : BAt w g off l) (hb : Below B w w') (hg : g < B) : BAt w' g off l := by
  intro j hj
  rw [hb.cell (p := ⟨g, off + j, none⟩) hg]
  exact h j hj

theorem BAt.drewN {w : World} {g off : Nat} {l : List UInt8} (h : BAt w g off l) (n : Nat) : BAt (w.drewN n) g off l := by
  intro j hj
  rw [World.cell?_drewN]
  exact h j hj

theorem BAt.right {w : World} {g off : Nat} {l m : List UInt8} (h : BAt w g off (l ++ m)) : BAt w g (off + l.length) m := by
  intro j hj
  have := h (l.length + j) (by simp; omega)
  rw [← Nat.add_assoc] at this
  rw [this]
  simp

theorem BAt.left {w : World} {g off : Nat} {l m : List UInt8} (h : BAt w g off (l ++ m)) : BAt w g off l := by
  intro j hj
  rw [h j (by simp; omega), List.getElem_append_left hj]

theorem BAt.at {w : World} {g off : Nat} {l : List UInt8} (h : BAt w g off l) {j : Nat} {c : UInt8} (hc : l[j]? = some c) : w.cell? ⟨g, off + j, none⟩ = some (.int .u8 c.toNat) := by
  have hj : j < l.length := by
    rcases Nat.lt_or_ge j l.length with e | e
    · exact e
    · rw [List.getElem?_eq_none e] at hc; cases hc
  rw [List.getElem?_eq_getElem hj] at hc
  simp only [Option.some.injEq] at hc
  rw [h j hj, hc]

theorem SrcB.mono {B B' : Nat} {w : World} {ra : Option Addr} {rn rc : Nat} {r : List UInt8} (h : SrcB B w ra rn rc r) (hB : B ≤ B') : SrcB B' w ra rn rc r := by
  rcases h with h | ⟨ad, e, en, hc⟩
  · exact .inl h
  · exact .inr ⟨ad, e, en, fun j u hu => ⟨Nat.lt_of_lt_of_le (hc j u hu).1 hB, (hc j u hu).2⟩⟩

/-- It returned a bool, whichever. -/
def IsB (e : Ending) : Prop := ∃ r, e = .returned (.bool r)
theorem isB_mk (r : Bool) : IsB (.returned (.bool r)) := ⟨r, rfl⟩

set_option maxHeartbeats 800000 in
theorem zzBytes5 (a : Option Addr) (n c : Nat) (x y : Int) (a3 : Option Addr) (n3 c3 : Nat) (m : ByteArray) (z : Int) (w : World) : Calls Try.prog 5 #[.slice a n c, .int .u64 x, .int .u8 y, .slice a3 n3 c3, .string m, .int .i64 z] w fun e w' => IsB e ∧ w' = w := by
  go_enter Try.func5, Try.ntmps5
  go_wp2
  all_goals (go_ret; exact ⟨isB_mk _, rfl⟩)

set_option maxHeartbeats 800000 in
theorem zzBytes9 (a : Option Addr) (n c : Nat) (x y : Int) (a3 : Option Addr) (n3 c3 : Nat) (m : ByteArray) (z : Int) (w : World) : Calls Try.prog 9 #[.slice a n c, .int .u64 x, .int .u8 y, .slice a3 n3 c3, .string m, .int .i64 z] w fun e w' => IsB e ∧ w' = w := by
  go_enter Try.func9, Try.ntmps9
  go_wp2
  all_goals (go_ret; exact ⟨isB_mk _, rfl⟩)
end Go.Proofs.Qxb6630265a
