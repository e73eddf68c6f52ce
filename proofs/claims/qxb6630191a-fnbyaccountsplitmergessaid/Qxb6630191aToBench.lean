import Derived.Test.Qxb6630191aHeap
namespace Go.Proofs.Qxb6630191a
open Go.RowKit
set_option linter.unusedVariables false

theorem Try.info31 : (Try.prog.info? 31).map (fun i => (i.zero, i.size, i.bytes)) = some (some (.agg #[.int .i64 0, .int .i64 0, .string ByteArray.empty, .string ByteArray.empty, .int .i64 0, .string ByteArray.empty]), 6, 72) := by kernel_rfl
theorem Try.size31 : (Try.prog.info? 31).map (·.size) = some 6 := by kernel_rfl

/-- After k rounds: the row's first k orders are laid. -/
def BInv (w : World) (os : List Ord) (k : Nat) (wr : World) : Prop :=
  (∃ xs, wr.ownsRow w.heap.size 31 6 (.slice (some ⟨w.heap.size, 0, none⟩) os.length os.length) os.length xs ∧ xs.take (k * 6) = flat (os.take k)) ∧ Below w.heap.size w wr

theorem BInv.step {w wr : World} {os : List Ord} {k : Nat} (h : BInv w os k wr) (hk : k < os.length) : BInv w os (k + 1) (wr.setCells w.heap.size (k * 6) (ordCells os[k])) := by
  obtain ⟨⟨xs, hown, ht⟩, hb⟩ := h
  obtain ⟨h1, g1⟩ := owns_setCells (ordCells os[k]) (k * 6) wr xs hown
  refine ⟨⟨_, h1, row_step hk hown.1 ht⟩, hb.grown g1 hb.size (fun j hj => by cases hj; exact Nat.le_refl _)⟩

theorem BInv.there {w wr : World} {os : List Ord} {k : Nat} (h : BInv w os k wr) (hk : k < os.length) : wr.there w.heap.size (k * 6) 6 := by
  obtain ⟨⟨xs, hown, ht⟩, hb⟩ := h
  exact there_of_owns hown hk

theorem BInv.done {w wr : World} {os : List Ord} {k : Nat} (h : BInv w os k wr) (hk : k = os.length) :
    wr.ownsRow w.heap.size 31 6 (.slice (some ⟨w.heap.size, 0, none⟩) os.length os.length) os.length (flat os) ∧ Below w.heap.size w wr := by
  obtain ⟨⟨xs, hown, ht⟩, hb⟩ := h
  subst hk
  rw [List.take_of_length_le (by rw [hown.1]; exact Nat.le_refl _), List.take_of_length_le (Nat.le_refl _)] at ht
  rw [ht] at hown
  exact ⟨hown, hb⟩

theorem At.below {w w' : World} {b off : Nat} {os : List Ord} (h : At w b off os) (hb : Below w.heap.size w w') : At w' b off os := by
  have key : ∀ (o : Nat) (v : Value), w.cell? ⟨b, o, none⟩ = some v → w'.cell? ⟨b, o, none⟩ = some v := fun o v hv =>
    (hb.cell (p := ⟨b, o, none⟩) (World.block_lt_of_cell? w _ hv)).trans hv
  exact ⟨fun i hi => key _ _ (h.c0 i hi), fun i hi => key _ _ (h.c1 i hi), fun i hi => key _ _ (h.c2 i hi), fun i hi => key _ _ (h.c3 i hi), fun i hi => key _ _ (h.c4 i hi), fun i hi => key _ _ (h.c5 i hi)⟩

theorem wpList_store_ord {ops : Array Oper} {rest : List Oper} {a : Act} {w : World} {Q : Exit → Act → World → Prop} {x y : Nat} {ty : TypeId} {ps : String} {af : Array Edge} (b off : Nat) (o : Ord)
    (ht : w.there b off 6) (hx : a.eval (.tmp x) = .pointer (some ⟨b, off, none⟩)) (hy : a.eval (.tmp y) = .agg #[.int .i64 o.id, .int .i64 o.acc, .string o.bank, .string o.accTo, .int .i64 o.amt, .string o.ks])
    (h : wpList Try.prog ops Q rest (a.put none undef) (w.setCells b off (ordCells o))) :
    wpList Try.prog ops Q ({ dst := none, op := Op.store 31 (.tmp x) (.tmp y), type := ty, pos := ps, after := af, guard := none } :: rest) a w :=
  wpList_store_mid rfl 31 (.tmp x) (.tmp y) rfl b off #[.int .i64 o.id, .int .i64 o.acc, .string o.bank, .string o.accTo, .int .i64 o.amt, .string o.ks] hx hy ht Try.size31 (by simp [Value.oneCell']) h

set_option maxHeartbeats 800000 in
theorem toBench_some (b off cap : Nat) (os : List Ord) (w : World) (hs : os.length ≤ 4096) (hat : At w b off os) :
    Calls Try.prog 7 #[.slice (some ⟨b, off, none⟩) os.length cap] w fun e w' => e = .returned (.slice (some ⟨w.heap.size, 0, none⟩) os.length os.length) ∧
      w'.ownsRow w.heap.size 31 6 (.slice (some ⟨w.heap.size, 0, none⟩) os.length os.length) os.length (flat os) ∧ Below w.heap.size w w' := by
  obtain ⟨i0, hi, hz0, hz1, hz2⟩ := info_parts Try.info31
  have q22 := fun (w : World) (a : Option Addr) (n c n' c' : Nat) => Lib.run_eql_slice_nil (P := Try.prog) w _ _ a n c n' c' Try.underlying22
  go_enter Try.func7, Try.ntmps7
  go_wp2_with (at_make; refine wpList_make_full _ rfl _ _ 25 rfl w.heap.size 31 i0 _ 6 Try.underlying25 hi hz0 hz1 .i64 .i64 _ _ os.length rfl rfl rfl rfl (by rw [hz2]; omega) (by unfold maxLen; omega) (Nat.le_refl _) ?_; intro w1 hown hgrow)
  have hinv0 : BInv w os 0 w1 := ⟨⟨_, hown, by simp [flat]⟩, (Below.refl _ _).grown hgrow (Nat.le_refl _) (fun j hj => by cases hj)⟩
  clear hown hgrow
  go_loopw [4] (fun i wr => ∃ k : Nat, k ≤ os.length ∧ i = .int .i64 k ∧ BInv w os k wr) (fun i _ => os.length - (intOf i).toNat)
  case atStart => exact ⟨0, Nat.zero_le _, rfl, hinv0⟩
  case round =>
    obtain ⟨k, hk, rfl, hinv⟩ := hrel
    by_cases hlt : k < os.length
    · have hatr := hat.below hinv.2
      have hc0 := hatr.c0 k hlt
      have hc1 := hatr.c1 k hlt
      have hc2 := hatr.c2 k hlt
      have hc3 := hatr.c3 k hlt
      have hc4 := hatr.c4 k hlt
      have hc5 := hatr.c5 k hlt
      have hth := hinv.there hlt
      go_wp2_with (refine wpList_store_ord w.heap.size (k * 6) os[k] hth rfl rfl ?_)
      have hinv' := hinv.step hlt
      go_roundw
      case rel => exact ⟨k + 1, by omega, by go_num, hinv'⟩
      case measure => simp [intOf]; omega
    · have hke : k = os.length := by omega
      have hd := hinv.done hke
      go_wp2
      go_ret
      exact ⟨rfl, hd.1, hd.2⟩

set_option maxHeartbeats 400000 in
theorem toBench_nil (w : World) :
    Calls Try.prog 7 #[.slice none 0 0] w fun e w' => e = .returned (.slice none 0 0) ∧ w' = w := by
  have q22 := fun (w : World) (a : Option Addr) (n c n' c' : Nat) => Lib.run_eql_slice_nil (P := Try.prog) w _ _ a n c n' c' Try.underlying22
  go_enter Try.func7, Try.ntmps7
  go_wp2
  go_ret
  exact ⟨rfl, rfl⟩

set_option maxHeartbeats 400000 in
theorem toBench_empty (ad : Addr) (cap : Nat) (w : World) :
    Calls Try.prog 7 #[.slice (some ad) 0 cap] w fun e w' => e = .returned (.slice (some ⟨w.heap.size, 0, none⟩) 0 0) ∧ Below w.heap.size w w' := by
  obtain ⟨i0, hi, hz0, hz1, hz2⟩ := info_parts Try.info31
  have q22 := fun (w : World) (a : Option Addr) (n c n' c' : Nat) => Lib.run_eql_slice_nil (P := Try.prog) w _ _ a n c n' c' Try.underlying22
  go_enter Try.func7, Try.ntmps7
  go_wp2_with (at_make; refine wpList_make_full _ rfl _ _ 25 rfl w.heap.size 31 i0 _ 6 Try.underlying25 hi hz0 hz1 .i64 .i64 _ _ 0 rfl rfl rfl rfl (by omega) (by unfold maxLen; omega) (Nat.le_refl _) ?_; intro w1 hown hgrow)
  have hb : Below w.heap.size w w1 := (Below.refl _ _).grown hgrow (Nat.le_refl _) (fun j hj => by cases hj)
  clear hown hgrow
  refine wp_loop_rounds 1 ?_
  rw [rounds_succ]
  go_wp2
  go_ret
  exact ⟨rfl, hb⟩
end Go.Proofs.Qxb6630191a
