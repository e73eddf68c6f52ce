/-
  LEMMAS ON MEMORY for the appenders: bytes that the call owns, and what an append leaves as it was.
-/
import Derived.WalkKit
import Derived.WalkSpells
import Derived.Maps.AppendAt
import Derived.Lib.AppendStr
import Derived.Lib.Strings
import Derived.Lib.VarintMem
import Derived.Lib.Varint
import Derived.Lib.VarintBits
import Derived.Lib.EndianBits
import Derived.Lib.EndianMore
import Derived.Laws.CopyOwn
import Derived.Laws.AppendOwnNone
namespace Go.Proofs.Qxb6630265a
open Go.RowKit
set_option linter.unusedVariables false

/-- The value owns the bytes l. -/
def OwnB (B : Nat) (w : World) (v : Value) (l : List UInt8) : Prop := w.ownsRow B 5 1 v l.length (Lib.byteCells l)

/-- From w to w' nothing that was there has turned but the old value's own row; the new value lies in that row or in a new block. -/
structure Upd (w : World) (v : Value) (w' : World) (v' : Value) : Prop where
  grown : w.grownBy w' v.ownBlock
  lies : v'.ownBlock = v.ownBlock ∨ ∃ g, v'.ownBlock = some g ∧ w.heap.size ≤ g

theorem Upd.refl (w : World) (v : Value) : Upd w v w v := ⟨⟨rfl, rfl, rfl, Nat.le_refl _, fun _ _ _ => rfl⟩, .inl rfl⟩

theorem Upd.trans {w w1 w2 : World} {v v1 v2 : Value} (h : Upd w v w1 v1) (k : Upd w1 v1 w2 v2) : Upd w v w2 v2 := by
  have hs := h.grown.size
  refine ⟨⟨k.grown.os.trans h.grown.os, k.grown.tape.trans h.grown.tape, k.grown.output.trans h.grown.output, Nat.le_trans hs k.grown.size, ?_⟩, ?_⟩
  · intro i hi hne
    refine (k.grown.block i (Nat.lt_of_lt_of_le hi hs) ?_).trans (h.grown.block i hi hne)
    rcases h.lies with e | ⟨g, e, hg⟩
    · rw [e]; exact hne
    · rw [e]; simp only [ne_eq, Option.some.injEq]; omega
  · rcases k.lies with e | ⟨g, e, hg⟩
    · rw [e]; exact h.lies
    · exact .inr ⟨g, e, Nat.le_trans hs hg⟩

/-- A new block first. -/
theorem Upd.alloc {w w' : World} {v v' : Value} (o : Obj) (h : Upd (w.alloc o) v w' v') : Upd w v w' v' := by
  have hs := h.grown.size
  simp at hs
  refine ⟨(World.grownBy_alloc w o _).trans h.grown, ?_⟩
  rcases h.lies with e | ⟨g, e, hg⟩
  · exact .inl e
  · exact .inr ⟨g, e, by simp at hg; omega⟩

theorem Upd.drew {w w' : World} {v v' : Value} (h : Upd w.drew v w' v') : Upd w v w' v' := ⟨⟨h.grown.os, h.grown.tape, h.grown.output, h.grown.size, h.grown.block⟩, h.lies⟩

theorem Upd.mk' {w w' : World} {v v' : Value} {H : Nat} (hg : w.grownBy w' v.ownBlock) (hl : v'.ownBlock = v.ownBlock ∨ v'.ownBlock = some H) (hH : w.heap.size = H) : Upd w v w' v' :=
  ⟨hg, by rcases hl with e | e; exact .inl e; exact .inr ⟨_, e, by omega⟩⟩

/-- A cell of another block than the value's own. -/
theorem Upd.cell {w w' : World} {v v' : Value} (h : Upd w v w' v') {a : Addr} (hlt : a.block < w.heap.size) (hne : v.ownBlock ≠ some a.block) : w'.cell? a = w.cell? a :=
  World.cell?_of_block (h.grown.block a.block hlt (fun e => hne e.symm))

theorem Upd.far {w w' : World} {v v' : Value} (h : Upd w v w' v') {k : Nat} (hlt : k < w.heap.size) (hne : v.ownBlock ≠ some k) : v'.ownBlock ≠ some k := by
  rcases h.lies with e | ⟨g, e, hg⟩
  · rw [e]; exact hne
  · rw [e]; simp only [ne_eq, Option.some.injEq]; omega

theorem Upd.below {B : Nat} {w0 w w' : World} {v v' : Value} {l : List UInt8} (h : Upd w v w' v') (hb : Below B w0 w) (hB : B ≤ w.heap.size) (ho : OwnB B w v l) : Below B w0 w' :=
  hb.grown h.grown hB (fun k hk => (World.ownsRow.lt ho k hk).1)

theorem OwnB.far {B : Nat} {w : World} {v : Value} {l : List UInt8} (h : OwnB B w v l) : v.ownBlock ≠ some w.heap.size := by
  intro e
  have := World.ownsRow.lt h _ e
  omega

theorem OwnB.alloc {B : Nat} {w : World} {v : Value} {l : List UInt8} (h : OwnB B w v l) (o : Obj) : OwnB B (w.alloc o) v l := World.ownsRow.alloc h o
theorem OwnB.drew {B : Nat} {w : World} {v : Value} {l : List UInt8} (h : OwnB B w v l) : OwnB B w.drew v l := h

theorem ownB_nil (B : Nat) (w : World) : OwnB B w (.slice none 0 0) [] := World.ownsRow_nil w B 5 1

theorem byteCells_append (a b : List UInt8) : Lib.byteCells (a ++ b) = Lib.byteCells a ++ Lib.byteCells b := by simp [Lib.byteCells]

theorem byteCells_length (a : List UInt8) : (Lib.byteCells a).length = a.length := by simp [Lib.byteCells]

theorem byteCells_one (a : List UInt8) : ∀ u ∈ Lib.byteCells a, u.oneCell' = true := by
  intro u hu
  simp [Lib.byteCells] at hu
  obtain ⟨b, _, rfl⟩ := hu
  rfl

/-- From the law's end to 'OwnB'. -/
theorem ownB_of {B : Nat} {w : World} {v : Value} {l m : List UInt8} {n : Nat} (hn : n = m.length) (h : w.ownsRow B 5 1 v (l.length + n) (Lib.byteCells l ++ Lib.byteCells m)) : OwnB B w v (l ++ m) := by
  subst hn
  unfold OwnB
  rw [List.length_append, byteCells_append]
  exact h

/-- Appending a string's bytes: where the new slice lies. -/
theorem run_append_string_at {P : Program} (w : World) (base : Nat) (t u ty e : TypeId) (i : TypeInfo) (ht : P.underlying t = some (.slice e)) (hu : P.underlying u = some .string) (hi : P.info? e = some i) (hz : i.zero = some (.int .u8 0))
    (hsize : i.size = 1) (hby : i.bytes = 1) (v : Value) (n : Nat) (xs : List Value) (hown : w.ownsRow base e 1 v n xs) (s : ByteArray)
    (hbytes : n + s.size ≤ 140737488355328) (hbase : base ≤ w.heap.size) :
    ∃ v' w', (Builtin.append_ #[t, u] ty #[v, .string s]).run P w = .ok v' w' ∧ w'.ownsRow base e 1 v' (n + s.size) (xs ++ Lib.strCells s) ∧ w.grownBy w' v.ownBlock ∧ (v'.ownBlock = v.ownBlock ∨ v'.ownBlock = some w.heap.size) := by
  obtain ⟨v', w', hr, h2, h3, h4⟩ := Lib.run_append_own_string (P := P) w base t u ty e i ht hu hi hz hsize hby v n xs hown s (by unfold maxLen; omega) hbytes hbase
  refine ⟨v', w', hr, h2, h3, ?_⟩
  have hxl : xs.length = n := by simpa using hown.1
  have inj : ∀ v2 w2, (Builtin.append_ #[t, u] ty #[v, .string s]).run P w = .ok v2 w2 → v' = v2 := by
    intro v2 w2 h
    rw [hr] at h
    cases h
    rfl
  rcases hown.2 with ⟨rfl, rfl⟩ | ⟨g, cap, cur, rfl, hbg, hg, hnc, hcm, hcs, htake⟩
  · by_cases hm : s.size = 0
    · rw [h4.2 ⟨rfl, hm⟩]; exact .inl rfl
    · rw [inj _ _ (run_append_nil_string (P := P) w t u ty e i (.int .u8 0) ht hu hi hz s (by omega) (by omega) (by rw [hby]; omega))]
      exact .inr rfl
  · by_cases hroom : n + s.size ≤ cap
    · rw [inj _ _ (Lib.run_append_room_string (P := P) w t u ty e i ht hu hi hsize g n cap cur hg s hroom (by rw [hcs]; omega))]
      exact .inl rfl
    · have holds : ∀ j u, xs[j]? = some u → w.cell? ((⟨g, 0, none⟩ : Addr).add j) = some u := hown.cells (g := g) rfl
      rw [inj _ _ (Lib.run_append_grow_string (P := P) w t u ty e i (.int .u8 0) ht hu hi hz ⟨g, 0, none⟩ n cap xs (by rw [hsize]; simpa using hxl) holds s (by omega) (by omega) (by rw [hby]; exact growslice_fits (by omega) (by omega)))]
      exact .inr rfl

theorem wpList_append_string_at {P : Program} (w : World) {ops : Array Oper} {rest : List Oper} {o : Oper} {a : Act} {Q : Exit → Act → World → Prop} (hgd : o.guard = none) (sl x : Operand) (t u : TypeId)
    (ho : o.op = .call { callee := .builtin .append, args := #[sl, x], argTypes := #[t, u] })
    (base : Nat) (e : TypeId) (i : TypeInfo) (ht : P.underlying t = some (.slice e)) (hu : P.underlying u = some .string) (hi : P.info? e = some i) (hz : i.zero = some (.int .u8 0))
    (hsize : i.size = 1) (hby : i.bytes = 1)
    (v : Value) (n : Nat) (xs : List Value) (hs : a.eval sl = v) (hown : w.ownsRow base e 1 v n xs) (s : ByteArray) (hx : a.eval x = .string s)
    (hbytes : n + s.size ≤ 140737488355328) (hbase : base ≤ w.heap.size)
    (h : ∀ v' w', w'.ownsRow base e 1 v' (n + s.size) (xs ++ Lib.strCells s) → w.grownBy w' v.ownBlock → (v'.ownBlock = v.ownBlock ∨ v'.ownBlock = some w.heap.size) → wpList P ops Q rest (a.put o.dst v') w') : wpList P ops Q (o :: rest) a w := by
  refine wpList_plain hgd fun K hK => ?_
  obtain ⟨v', w', hr, h2, h3, h4⟩ := run_append_string_at (P := P) w base t u o.type e i ht hu hi hz hsize hby v n xs hown s hbytes hbase
  unfold Oper.wp execOp
  simp only [ho, resolve, invoke, builtin, Sem.run_bind, Sem.run_pure, Result.andThen_ok, List.map_toArray, List.map_cons, List.map_nil, hs, hx, hr]
  exact hK _ _ (h v' w' h2 h3 h4)

theorem strCells_eq (s : ByteArray) : Lib.strCells s = Lib.byteCells s.data.toList := rfl

theorem ownB_shape {B : Nat} {w : World} {v : Value} {l : List UInt8} (h : OwnB B w v l) : ∃ ao cap, v = .slice ao l.length cap := by
  rcases h.2 with ⟨rfl, h0⟩ | ⟨g, cap, cur, rfl, _⟩
  · exact ⟨none, 0, by rw [h0]⟩
  · exact ⟨_, _, rfl⟩

theorem ownB_form {B : Nat} {w : World} {v : Value} {l : List UInt8} (h : OwnB B w v l) (hl : 0 < l.length) : ∃ g cap, v = .slice (some ⟨g, 0, none⟩) l.length cap ∧ B ≤ g ∧ g < w.heap.size ∧ l.length ≤ cap := by
  rcases h.2 with ⟨_, h0⟩ | ⟨g, cap, cur, rfl, hb, hg, hc, _⟩
  · omega
  · refine ⟨g, cap, rfl, hb, ?_, hc⟩
    rcases Nat.lt_or_ge g w.heap.size with e | e
    · exact e
    · rw [Array.getElem?_eq_none e] at hg; cases hg

/-- Bytes that came in: nil, or cells below B. -/
def SrcB (B : Nat) (w : World) (ra : Option Addr) (rn rc : Nat) (r : List UInt8) : Prop :=
  (ra = none ∧ rn = 0 ∧ rc = 0 ∧ r = []) ∨ ∃ ad, ra = some ad ∧ rn = r.length ∧ ∀ j u, (Lib.byteCells r)[j]? = some u → ad.block < B ∧ w.cell? (ad.add j) = some u

theorem add_block (ad : Addr) (j : Nat) : (ad.add j).block = ad.block := by unfold Addr.add; split <;> rfl

theorem SrcB.below {B : Nat} {w w' : World} {ra : Option Addr} {rn rc : Nat} {r : List UInt8} (h : SrcB B w ra rn rc r) (hb : Below B w w') : SrcB B w' ra rn rc r := by
  rcases h with h | ⟨ad, e, en, hc⟩
  · exact .inl h
  · refine .inr ⟨ad, e, en, fun j u hu => ⟨(hc j u hu).1, ?_⟩⟩
    rw [hb.cell (by rw [add_block]; exact (hc j u hu).1)]
    exact (hc j u hu).2

/-! ### bytes laid into a row that the call owns -/
def setList : List Value → Nat → List Value → List Value
  | xs, _, [] => xs
  | xs, o, v :: r => setList (xs.set o v) (o + 1) r

theorem setList_eq : ∀ (vs xs : List Value) (o : Nat), o + vs.length ≤ xs.length → setList xs o vs = xs.take o ++ (vs ++ xs.drop (o + vs.length))
  | [], xs, o, _ => by simp [setList]
  | v :: r, xs, o, h => by
    simp only [List.length_cons] at h
    rw [setList, setList_eq r (xs.set o v) (o + 1) (by simp; omega)]
    rw [List.set_eq_take_append_cons_drop, if_pos (by omega)]
    have e1 : (xs.take o ++ v :: xs.drop (o + 1)).take (o + 1) = xs.take o ++ [v] := by
      rw [List.take_append]
      simp only [List.length_take, Nat.min_eq_left (show o ≤ xs.length by omega), Nat.add_sub_cancel_left, List.take_succ_cons, List.take_zero, List.take_take]
      rw [Nat.min_eq_right (by omega)]
    have e2 : (xs.take o ++ v :: xs.drop (o + 1)).drop (o + 1 + r.length) = xs.drop (o + (r.length + 1)) := by
      rw [List.drop_append, List.drop_of_length_le (by simp; omega)]
      simp only [List.length_take, Nat.min_eq_left (show o ≤ xs.length by omega), List.nil_append]
      rw [show o + 1 + r.length - o = r.length + 1 by omega, List.drop_succ_cons, List.drop_drop]
      congr 1
      omega
    rw [e1, e2]
    simp

theorem owns_setCells {base e size g cap n : Nat} : ∀ (vs : List Value) (o : Nat) (w : World) (xs : List Value), w.ownsRow base e size (.slice (some ⟨g, 0, none⟩) n cap) n xs →
    (w.setCells g o vs).ownsRow base e size (.slice (some ⟨g, 0, none⟩) n cap) n (setList xs o vs) ∧ w.grownBy (w.setCells g o vs) (some g)
  | [], o, w, xs, h => ⟨h, ⟨rfl, rfl, rfl, Nat.le_refl _, fun _ _ _ => rfl⟩⟩
  | v :: r, o, w, xs, h => by
    obtain ⟨h1, g1⟩ := h.stored o v
    obtain ⟨h2, g2⟩ := owns_setCells r (o + 1) _ _ h1
    refine ⟨h2, ⟨g2.os.trans g1.os, g2.tape.trans g1.tape, g2.output.trans g1.output, Nat.le_trans g1.size g2.size, fun k hk hne => ?_⟩⟩
    exact (g2.block k (Nat.lt_of_lt_of_le hk g1.size) hne).trans (g1.block k hk hne)

/-- Bytes laid at place o of the row. -/
theorem ownB_put {B g cap n o : Nat} {w : World} {l m : List UInt8} (hn : n = l.length) (h : OwnB B w (.slice (some ⟨g, 0, none⟩) n cap) l) (ho : o + m.length ≤ l.length) :
    OwnB B (w.setCells g o (Lib.byteCells m)) (.slice (some ⟨g, 0, none⟩) n cap) (l.take o ++ (m ++ l.drop (o + m.length))) ∧ Upd w (.slice (some ⟨g, 0, none⟩) n cap) (w.setCells g o (Lib.byteCells m)) (.slice (some ⟨g, 0, none⟩) n cap) := by
  subst hn
  obtain ⟨h1, g1⟩ := owns_setCells (Lib.byteCells m) o w _ h
  refine ⟨?_, ⟨g1, .inl rfl⟩⟩
  unfold OwnB
  rw [setList_eq _ _ _ (by simp [byteCells_length]; exact ho)] at h1
  have el : (l.take o ++ (m ++ l.drop (o + m.length))).length = l.length := by simp; omega
  rw [el]
  have ec : Lib.byteCells (l.take o ++ (m ++ l.drop (o + m.length))) = (Lib.byteCells l).take o ++ (Lib.byteCells m ++ (Lib.byteCells l).drop (o + (Lib.byteCells m).length)) := by
    simp [Lib.byteCells]
  rw [ec]
  exact h1

end Go.Proofs.Qxb6630265a
