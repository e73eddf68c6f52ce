import Derived.Test.Qxb6630265aAnswer
namespace Go.Proofs.Qxb6630265a
open Go.RowKit
set_option linter.unusedVariables false

theorem Try.size5 : (Try.prog.info? 5).map (·.size) = some 1 := by kernel_rfl

theorem wpList_copy_bytes {ops : Array Oper} {rest : List Oper} {a : Act} {w : World} {Q : Exit → Act → World → Prop} {d x y : Nat} {ty : TypeId} {ps : String} {af : Array Edge} (g : Nat) (cur : Array Value) (n sCap : Nat) (ad : Addr) (bs : List UInt8)
    (hn : n = bs.length) (hcs : cur.size = n) (hg : w.heap[g]? = some (.cells cur 5 (0, 0))) (hsrc : ∀ j u, (Lib.byteCells bs)[j]? = some u → w.cell? (ad.add j) = some u)
    (B : Nat) (w0 : World) (hb : Below B w0 w) (hBg : B ≤ g) (hd : a.eval (.tmp x) = .slice (some ⟨g, 0, none⟩) n n) (hs : a.eval (.tmp y) = .slice (some ad) n sCap)
    (h : ∀ w', Hid (w'.heap[g]? = some (.cells (Lib.byteCells bs).toArray 5 (0, 0))) → Below B w0 w' → wpList Try.prog ops Q rest (a.put (some d) (goInt (Lib.byteCells bs).length)) w') :
    wpList Try.prog ops Q ({ dst := some d, op := Op.call { callee := Callee.builtin Builtin.copy, args := #[.tmp x, .tmp y], argTypes := #[22, 22] }, type := ty, pos := ps, after := af, guard := none } :: rest) a w := by
  refine wpList_copy_splice rfl (.tmp x) (.tmp y) 22 22 rfl 5 Try.underlying22 Try.size5 _ _ n n n sCap hd hs g 0 cur.toList 5 (by simpa using hg) (Lib.byteCells bs) (by rw [byteCells_length]; simp [hn]) (fun _ => ⟨rfl, ad, rfl, hsrc⟩) (by rw [byteCells_length]; simp; omega) (byteCells_one _) B w0 hb hBg ?_
  intro w' hg' hb'
  refine h w' ?_ hb'
  have e : splice cur.toList 0 (Lib.byteCells bs) = Lib.byteCells bs := by
    unfold splice
    rw [List.drop_of_length_le (by rw [byteCells_length]; simp; omega)]
    simp
  have := hg'.out
  rw [e] at this
  exact this

theorem ownB_of_block {B g n : Nat} {w : World} {bs : List UInt8} (hn : n = bs.length) (hB : B ≤ g) (hm : n ≤ maxLen) (hg : w.heap[g]? = some (.cells (Lib.byteCells bs).toArray 5 (0, 0))) : OwnB B w (.slice (some ⟨g, 0, none⟩) n n) bs := by
  subst hn
  refine ⟨by rw [byteCells_length, Nat.mul_one], .inr ⟨g, bs.length, _, rfl, hB, hg, Nat.le_refl _, hm, ?_, ?_⟩⟩
  · simp [byteCells_length]
  · simp only [Nat.mul_one]
    rw [List.take_of_length_le (by simp [byteCells_length])]

theorem own_block {B g n cap : Nat} {w : World} {xs : List Value} (h : w.ownsRow B 5 1 (.slice (some ⟨g, 0, none⟩) n cap) n xs) (hc : cap = n) : ∃ cur, w.heap[g]? = some (.cells cur 5 (0, 0)) ∧ cur.size = n := by
  rcases h.2 with ⟨h', _⟩ | ⟨g', cap', cur, h', hb, hg, _, _, hcs, _⟩
  · cases h'
  · simp only [Value.slice.injEq, Option.some.injEq, Addr.mk.injEq, and_true, true_and] at h'
    obtain ⟨rfl, rfl⟩ := h'
    exact ⟨cur, hg, by rw [hcs, hc, Nat.mul_one]⟩

theorem src_below {w w' : World} {ad : Addr} {bs : List UInt8} (h : ∀ j u, (Lib.byteCells bs)[j]? = some u → w.cell? (ad.add j) = some u) (hb : Below w.heap.size w w') : ∀ j u, (Lib.byteCells bs)[j]? = some u → w'.cell? (ad.add j) = some u := by
  intro j u hu
  have := h j u hu
  rw [hb.cell (World.block_lt_of_cell? w _ this)]
  exact this

set_option maxHeartbeats 800000 in
theorem clone_some (ad : Addr) (c : Nat) (bs : List UInt8) (w : World) (hs : bs.length ≤ 1073741824) (hsrc : ∀ j u, (Lib.byteCells bs)[j]? = some u → w.cell? (ad.add j) = some u) :
    Calls Try.prog 6 #[.slice (some ad) bs.length c] w fun e w' => ∃ v', e = .returned v' ∧ OwnB w.heap.size w' v' bs ∧ Below w.heap.size w w' := by
  obtain ⟨i0, hi, hz0, hz1, hz2⟩ := info_parts Try.info5
  have q22 := fun (w : World) (a : Option Addr) (n c n' c' : Nat) => Lib.run_eql_slice_nil (P := Try.prog) w _ _ a n c n' c' Try.underlying22
  obtain ⟨n, hn⟩ : ∃ n, n = bs.length := ⟨_, rfl⟩
  rw [← hn] at hs ⊢
  have HN : Hid (n = bs.length) := hn
  clear hn
  go_enter Try.func6, Try.ntmps6
  go_wp2_with (first
    | (at_make; refine wpList_make_full _ rfl _ _ 22 rfl w.heap.size 5 i0 _ 1 Try.underlying22 hi hz0 hz1 .i64 .i64 _ _ n rfl rfl rfl rfl (by rw [hz2]; omega) (by unfold maxLen; omega) (Nat.le_refl _) ?_; intro w1 hown hgrow; obtain ⟨cur, hcur, hcsz⟩ := own_block hown rfl; have hb1 : Below w.heap.size w w1 := (Below.refl _ _).grown hgrow (Nat.le_refl _) (fun j hj => by cases hj); have hsrc1 := src_below hsrc hb1; clear hown hgrow)
    | (refine wpList_copy_bytes w.heap.size cur n c ad bs HN.out hcsz hcur hsrc1 w.heap.size w hb1 (Nat.le_refl _) rfl rfl ?_; intro w2 hg2 hb2)
    | fail)
  go_ret
  exact ⟨_, rfl, ownB_of_block HN.out (Nat.le_refl _) (by unfold maxLen; omega) hg2.out, hb2⟩

set_option maxHeartbeats 400000 in
theorem clone_nil (w : World) : Calls Try.prog 6 #[.slice none 0 0] w fun e w' => e = .returned (.slice none 0 0) ∧ w' = w := by
  have q22 := fun (w : World) (a : Option Addr) (n c n' c' : Nat) => Lib.run_eql_slice_nil (P := Try.prog) w _ _ a n c n' c' Try.underlying22
  go_enter Try.func6, Try.ntmps6
  go_wp2
  go_ret
  exact ⟨rfl, rfl⟩

/-- The clone, whatever came in. -/
theorem clone_any (a0 : Option Addr) (n c : Nat) (bs : List UInt8) (w : World) (hs : bs.length ≤ 1073741824) (hsrc : SrcB w.heap.size w a0 n c bs) :
    Calls Try.prog 6 #[.slice a0 n c] w fun e w' => ∃ v', e = .returned v' ∧ OwnB w.heap.size w' v' bs ∧ Below w.heap.size w w' := by
  rcases hsrc with ⟨rfl, rfl, rfl, rfl⟩ | ⟨ad, rfl, rfl, h⟩
  · exact (clone_nil w).mono fun e w' ⟨he, hw⟩ => ⟨_, he, ownB_nil _ _, by rw [hw]; exact Below.refl _ _⟩
  · exact clone_some ad c bs w hs (fun j u hu => (h j u hu).2)
end Go.Proofs.Qxb6630265a
