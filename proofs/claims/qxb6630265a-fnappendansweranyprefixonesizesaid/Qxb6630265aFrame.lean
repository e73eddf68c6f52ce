import Derived.Test.Qxb6630265aApp
import Derived.Lib.UnsafeStr
import Derived.Laws.IdiomCopy
namespace Go.Proofs.Qxb6630265a
open Go.RowKit
set_option linter.unusedVariables false

/-- Four bytes, the greatest first. -/
def be4 (v : Nat) : List UInt8 := Lib.beBytes 4 v

theorem be4_length (v : Nat) : (be4 v).length = 4 := Lib.beBytes_length 4 v

theorem be4_cells (v : Nat) (hv : v < 4294967296) : Lib.byteCells (be4 v) = [Value.int .u8 ((v : Int) / 16777216), Value.int .u8 ((v : Int) / 65536 % 256), Value.int .u8 ((v : Int) / 256 % 256), Value.int .u8 ((v : Int) % 256)] := by
  have e0 : ((v % 256 : Nat) : Int) = (v : Int) % 256 := by omega
  have e1 : ((v / 256 % 256 : Nat) : Int) = (v : Int) / 256 % 256 := by omega
  have e2 : ((v / 256 / 256 % 256 : Nat) : Int) = (v : Int) / 65536 % 256 := by omega
  have e3 : ((v / 256 / 256 / 256 % 256 : Nat) : Int) = (v : Int) / 16777216 := by omega
  simp only [be4, Lib.byteCells, Lib.beBytes, Lib.leBytes, List.reverse_cons, List.reverse_nil, List.nil_append, List.cons_append, List.map, Lib.toUInt8_mod, e0, e1, e2, e3]

theorem cell_past {w : World} {a : Addr} {v : Value} (o : Obj) (h : w.cell? a = some v) : (w.alloc o).cell? a = some v := by
  have hlt := World.block_lt_of_cell? w a h
  rw [World.cell?_of_block (Below.heap_alloc w o a.block hlt)]
  exact h

theorem frozen_past {w : World} {a : Addr} (o : Obj) (hlt : a.block < w.heap.size) (h : w.frozen? a = false) : (w.alloc o).frozen? a = false := by
  rw [World.frozen?_of_block (Below.heap_alloc w o a.block hlt)]
  exact h

set_option maxHeartbeats 800000 in
theorem put32_any (g o n c v : Nat) (hv : v < 4294967296) (x0 x1 x2 x3 : Value) (w : World) (hn : 4 ≤ n)
    (c0 : w.cell? ⟨g, o, none⟩ = some x0) (c1 : w.cell? ⟨g, o + 1, none⟩ = some x1) (c2 : w.cell? ⟨g, o + 2, none⟩ = some x2) (c3 : w.cell? ⟨g, o + 3, none⟩ = some x3)
    (f0 : w.frozen? ⟨g, o, none⟩ = false) (f1 : w.frozen? ⟨g, o + 1, none⟩ = false) (f2 : w.frozen? ⟨g, o + 2, none⟩ = false) (f3 : w.frozen? ⟨g, o + 3, none⟩ = false) :
    Calls Try.prog 16 #[.agg #[], .slice (some ⟨g, o, none⟩) n c, .int .u32 v] w fun e w' => e = .returned (.tuple #[]) ∧ w' = (w.setCells g o (Lib.byteCells (be4 v))).alloc (.cells #[] 41) := by
  have hg : g < w.heap.size := World.block_lt_of_cell? w _ c0
  have d0 := cell_past (.cells #[] 41) c0
  have d1 := cell_past (.cells #[] 41) c1
  have d2 := cell_past (.cells #[] 41) c2
  have d3 := cell_past (.cells #[] 41) c3
  have fa0 := frozen_past (a := ⟨g, o, none⟩) (.cells #[] 41) hg f0
  have fa1 := frozen_past (a := ⟨g, o + 1, none⟩) (.cells #[] 41) hg f1
  have fa2 := frozen_past (a := ⟨g, o + 2, none⟩) (.cells #[] 41) hg f2
  have fa3 := frozen_past (a := ⟨g, o + 3, none⟩) (.cells #[] 41) hg f3
  have hb := be4_cells v hv
  have HB : Hid (Lib.byteCells (be4 v) = _) := hb
  clear hb
  go_enter Try.func16, Try.ntmps16
  go_wp2
  go_end0
  refine ⟨rfl, ?_⟩
  rw [HB.out]
  rfl

theorem Upd.thenAlloc {w w' : World} {v v' : Value} (h : Upd w v w' v') (o : Obj) : Upd w v (w'.alloc o) v' :=
  ⟨h.grown.trans (World.grownBy_alloc w' o _), h.lies⟩

set_option maxHeartbeats 800000 in
theorem endFrame_any (B g cap : Nat) (l : List UInt8) (st : Nat) (w : World) (hown : OwnB B w (.slice (some ⟨g, 0, none⟩) l.length cap) l) (hBw : B ≤ w.heap.size) (hst : st + 5 ≤ l.length) (hlim : l.length ≤ 1073741824) (hcap : l.length ≤ cap) :
    Calls Try.prog 15 #[.slice (some ⟨g, 0, none⟩) l.length cap, .int .i64 st] w fun e w' => e = .returned (.slice (some ⟨g, 0, none⟩) l.length cap) ∧ OwnB B w' (.slice (some ⟨g, 0, none⟩) l.length cap) (l.take st ++ (be4 (l.length - st - 4) ++ l.drop (st + 4))) ∧
      Upd w (.slice (some ⟨g, 0, none⟩) l.length cap) w' (.slice (some ⟨g, 0, none⟩) l.length cap) := by
  have hcell : ∀ j, j < l.length → ∃ x, w.cell? ⟨g, j, none⟩ = some x := by
    intro j hj
    rw [World.ownsRow.cellAt hown j (by omega)]
    exact ⟨_, List.getElem?_eq_getElem (by rw [byteCells_length]; exact hj)⟩
  obtain ⟨x0, c0⟩ := hcell st (by omega)
  obtain ⟨x1, c1⟩ := hcell (st + 1) (by omega)
  obtain ⟨x2, c2⟩ := hcell (st + 2) (by omega)
  obtain ⟨x3, c3⟩ := hcell (st + 3) (by omega)
  have fz := fun j => World.ownsRow.frozenAt hown j
  have hP := put32_any g st (l.length - st) (cap - st) (l.length - st - 4) (by omega) x0 x1 x2 x3 w.drew (by omega) (by simpa using c0) (by simpa using c1) (by simpa using c2) (by simpa using c3) (fz _) (fz _) (fz _) (fz _)
  have HP : Hid (Calls _ _ _ _ _) := hP
  clear hcell hP
  have hw1 : IntKind.u32.wrap (IntKind.i64.wrap (IntKind.i64.wrap ((l.length : Int) - (st : Int)) - 4)) = ((l.length - st - 4 : Nat) : Int) := by
    rw [IntKind.wrap_i64, IntKind.wrap_i64, IntKind.wrap_u32]; omega
  have HW : Hid (IntKind.u32.wrap (IntKind.i64.wrap (IntKind.i64.wrap ((l.length : Int) - (st : Int)) - 4)) = ((l.length - st - 4 : Nat) : Int)) := hw1
  clear hw1
  have hne : ¬ cap = st := by omega
  have b1 : (0 : Int) ≤ (st : Int) := by omega
  have b2 : (st : Int) ≤ (l.length : Int) := by omega
  have b3 : (st : Int) ≤ (cap : Int) := by omega
  go_enter Try.func15, Try.ntmps15
  go_wp2
  go_region_with (go_at_call 16; rw [HW.out]; refine HP.out.mono ?_; rintro e w2 ⟨rfl, rfl⟩)
  have hput := ownB_put (w := w.drew) (o := st) (m := be4 (l.length - st - 4)) rfl hown (by rw [be4_length]; omega)
  rw [be4_length] at hput
  obtain ⟨ho, hu⟩ := hput
  go_wp2
  go_ret
  exact ⟨rfl, ho.alloc _, (hu.drew).thenAlloc _⟩

/-- The bytes of an answer's frame behind the length. -/
def payload (id : Nat) (st : UInt8) (r : List UInt8) (m : ByteArray) (rounds : Nat) : List UInt8 :=
  6 :: (Lib.uvarint id ++ (st :: (Lib.uvarint rounds ++ (Lib.uvarint r.length ++ (r ++ (Lib.uvarint m.size ++ m.data.toList))))))

/-- The whole frame. -/
def frame (id : Nat) (st : UInt8) (r : List UInt8) (m : ByteArray) (rounds : Nat) : List UInt8 := be4 (payload id st r m rounds).length ++ payload id st r m rounds

theorem payload_length (id : Nat) (st : UInt8) (r : List UInt8) (m : ByteArray) (rounds : Nat) :
    (payload id st r m rounds).length = 2 + (Lib.uvarint id).length + (Lib.uvarint rounds).length + (Lib.uvarint r.length).length + r.length + (Lib.uvarint m.size).length + m.size := by
  have := Lib.size_eq m
  simp [payload]
  omega
end Go.Proofs.Qxb6630265a
