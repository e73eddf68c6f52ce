import Derived.Test.Qxb6630191aByAcc
namespace Go.Proofs.Qxb6630191a
open Go.RowKit Go.Maps
set_option linter.unusedVariables false

/-- The groups as a reader meets them: each behind its own slice. -/
def GAt (w : World) (ab : Nat) (gss : List (List Ord)) : Prop :=
  ∀ i (h : i < gss.length), ∃ gb gc, w.cell? ⟨ab, i, none⟩ = some (.slice (some ⟨gb, 0, none⟩) gss[i].length gc) ∧ At w gb 0 gss[i]

theorem grp_pos {os : List Ord} (h : 0 < os.length) : 0 < (grp os).length := by
  rw [length_grp]
  have hm : os[0].acc ∈ accs os := (mem_accs os _).2 ⟨os[0], List.getElem_mem h, rfl⟩
  exact List.length_pos_of_mem hm

theorem grp_get (os : List Ord) (i : Nat) (h : i < (grp os).length) : (grp os)[i] = only ((accs os)[i]'(by rw [← length_grp]; exact h)) os := by
  simp [grp]

theorem grp_get_pos (os : List Ord) (i : Nat) (h : i < (grp os).length) : 0 < (grp os)[i].length := by
  rw [grp_get os i h]
  obtain ⟨o, l, e, _⟩ := only_head _ os (List.getElem_mem (by rw [← length_grp]; exact h))
  rw [e]
  simp

theorem gat_of_rows {B : Nat} {w : World} {ab ac : Nat} {vs : List Value} {os : List Ord} (h : RowsV B w (.slice (some ⟨ab, 0, none⟩) (grp os).length ac) vs (grp os)) : GAt w ab (grp os) := by
  intro i hi
  have hl := h.len
  have hv : vs[i]? = some vs[i] := List.getElem?_eq_getElem (by omega)
  have ho := h.each i _ _ (List.getElem?_eq_getElem hi) hv
  obtain ⟨gb, gc, e, _, _⟩ := ho.form (grp_get_pos os i hi)
  rw [e] at ho
  refine ⟨gb, gc, ?_, at_of_owns rfl ho⟩
  rw [h.own.cellAt i (by omega), hv, e]

theorem GAt.below {w w' : World} {ab : Nat} {gss : List (List Ord)} (h : GAt w ab gss) (hb : Below w.heap.size w w') : GAt w' ab gss := by
  intro i hi
  obtain ⟨gb, gc, hc, hat⟩ := h i hi
  exact ⟨gb, gc, (hb.cell (p := ⟨ab, i, none⟩) (World.block_lt_of_cell? w _ hc)).trans hc, hat.below hb⟩

theorem ainv_reads {w w' : World} {os : List Ord} {va : Value} (h : AInv w os os.length va w') (h0 : 0 < os.length) :
    ∃ ab ac, va = .slice (some ⟨ab, 0, none⟩) (grp os).length ac ∧ GAt w' ab (grp os) ∧ Below w.heap.size w w' := by
  obtain ⟨vs, hr⟩ := h.rows
  rw [List.take_of_length_le (Nat.le_refl _)] at hr
  obtain ⟨ab, ac, rfl, _, _⟩ := hr.own.form (grp_pos h0)
  exact ⟨ab, ac, rfl, gat_of_rows hr, h.below⟩

set_option maxHeartbeats 400000 in
theorem byAccount_empty (ao : Option Addr) (cap : Nat) (w : World) :
    Calls Try.prog 16 #[.slice ao 0 cap] w fun e w' => e = .returned (.slice none 0 0) ∧ Below w.heap.size w w' := by
  have hmm := @run_makeMap Try.prog
  go_enter Try.func16, Try.ntmps16
  go_wp2
  refine wp_loop_rounds 1 ?_
  rw [rounds_succ]
  go_wp2
  go_ret
  exact ⟨rfl, (Below.refl _ _).alloc (Nat.le_refl _) _⟩

set_option maxHeartbeats 400000 in
theorem zzByAccount_some (b off cap : Nat) (os : List Ord) (w : World) (hs : os.length ≤ 4096) (h0 : 0 < os.length) (hat : At w b off os) (hwf : ∀ o ∈ os, (Lit.int .i64 o.acc).wf = true) :
    Calls Try.prog 8 #[.slice (some ⟨b, off, none⟩) os.length cap] w fun e w' => ∃ ab ac, e = .returned (.slice (some ⟨ab, 0, none⟩) (grp os).length ac) ∧ GAt w' ab (grp os) ∧ Below w.heap.size w w' := by
  go_enter Try.func8, Try.ntmps8
  go_wp2_with fail
  refine (byAccount_some b off cap os _ hs hat hwf).mono ?_
  rintro e w' ⟨va, rfl, hinv⟩
  obtain ⟨ab, ac, rfl, hg, hb⟩ := ainv_reads hinv h0
  clear hinv
  go_wp2
  go_ret
  exact ⟨ab, ac, rfl, hg, hb⟩

set_option maxHeartbeats 400000 in
theorem zzByAccount_empty (ao : Option Addr) (cap : Nat) (w : World) :
    Calls Try.prog 8 #[.slice ao 0 cap] w fun e w' => e = .returned (.slice none 0 0) ∧ Below w.heap.size w w' := by
  go_enter Try.func8, Try.ntmps8
  go_wp2_with fail
  refine (byAccount_empty ao cap _).mono ?_
  rintro e w' ⟨rfl, hb⟩
  go_wp2
  go_ret
  exact ⟨rfl, hb⟩

theorem At.drewN {w : World} {b off : Nat} {os : List Ord} (h : At w b off os) (n : Nat) : At (w.drewN n) b off os :=
  ⟨fun i hi => by rw [World.cell?_drewN]; exact h.c0 i hi, fun i hi => by rw [World.cell?_drewN]; exact h.c1 i hi, fun i hi => by rw [World.cell?_drewN]; exact h.c2 i hi, fun i hi => by rw [World.cell?_drewN]; exact h.c3 i hi, fun i hi => by rw [World.cell?_drewN]; exact h.c4 i hi, fun i hi => by rw [World.cell?_drewN]; exact h.c5 i hi⟩

theorem below_drewN' {B : Nat} {w w' : World} (h : Below B w w') (n : Nat) : Below B w (w'.drewN n) := ⟨h.os, h.tape, h.output, h.size, h.block⟩

set_option maxHeartbeats 1600000 in
theorem law1_some (b off cap : Nat) (os : List Ord) (w : World) (hs : os.length ≤ 9223372036854775807) (h0 : 0 < os.length) (hat : At w b off os) (hwf : ∀ o ∈ os, (Lit.int .i64 o.acc).wf = true) :
    Calls Try.prog 3 #[.slice (some ⟨b, off, none⟩) os.length cap] w fun e w' => e = .returned (.bool true) ∧ Below w.heap.size w w' := by
  go_enter Try.func3, Try.ntmps3
  go_wp2_with fail
  refine (zzBytes5_some b off cap os _ hs hat).mono ?_
  rintro e w' ⟨⟨r, rfl⟩, rfl⟩
  cases r
  · go_wp2
    go_ret
    exact ⟨rfl, Below.refl _ _⟩
  by_cases hbig : 4096 < os.length
  · go_wp2
    go_ret
    exact ⟨rfl, Below.refl _ _⟩
  have hs' : os.length ≤ 4096 := by omega
  have hdec : decide ((4096 : Int) < (os.length : Int)) = false := by simp; omega
  go_wp2_with fail
  refine (over6_some b off cap _ os _ hs hat).mono ?_
  rintro e w' ⟨⟨r, rfl⟩, rfl⟩
  cases r
  case true =>
    go_wp2
    go_ret
    exact ⟨rfl, Below.refl _ _⟩
  go_wp2_with fail
  refine (toBench_some b off cap os _ hs' hat).mono ?_
  rintro e w1 ⟨rfl, hown, hb1⟩
  have hin1 := at_of_owns rfl hown
  clear hown
  go_wp2_with fail
  refine (zzByAccount_some _ 0 _ os _ hs' h0 hin1 hwf).mono ?_
  rintro e w2 ⟨ab, ac, rfl, hg, hb2⟩
  have hin := hin1.below hb2
  have hbw : Below w'.heap.size w' w2 := hb1.trans (hb2.mono hb1.size)
  clear hin1 hb1 hb2
  generalize w'.heap.size = ib at hin ⊢
  have hgl := length_grp os
  have hal := length_accs_le os
  go_wp2
  go_loop [5, 6] (fun d j => ∃ k : Nat, k ≤ os.length ∧ j = .int .i64 k ∧ d = .int .i64 (accs (os.take k)).length) (fun _ j => os.length - (intOf j).toNat)
  case atStart => exact ⟨0, Nat.zero_le _, rfl, rfl⟩
  case round =>
    obtain ⟨k, hk, rfl, rfl⟩ := hrel
    have hak := length_accs_le (os.take k)
    have htl : (os.take k).length ≤ k := List.length_take_le _ _
    by_cases hlt : k < os.length
    · have hc1 := hin.c1 k hlt
      rw [Nat.zero_add] at hc1
      have hst := accs_take_succ os k hlt
      have hfl : fpos os os[k].acc < os.length := fpos_lt os _ ((mem_accs os _).2 ⟨_, List.getElem_mem hlt, rfl⟩)
      by_cases hfp : fpos os os[k].acc = k
      · have HS : Hid ((accs (os.take (k + 1))).length = (accs (os.take k)).length + 1) := by rw [if_pos hfp] at hst; exact hst
        have HF : Hid (fpos os os[k].acc = k) := hfp
        clear hst hfp
        go_wp2_with fail
        refine (firstPos_any _ 0 _ _ os _ hs' hin hfl).mono ?_
        rintro e w'' ⟨rfl, rfl⟩
        rw [HF.out]
        go_wp2
        go_round
        case rel => exact ⟨k + 1, by omega, by go_num, by rw [HS.out]; go_num⟩
        case measure => simp [intOf]; omega
      · have HS : Hid ((accs (os.take (k + 1))).length = (accs (os.take k)).length) := by rw [if_neg hfp] at hst; exact hst
        have hne : ((fpos os os[k].acc : Int) == (k : Int)) = false := by rw [beq_eq_false_iff_ne]; omega
        clear hst hfp
        go_wp2_with fail
        refine (firstPos_any _ 0 _ _ os _ hs' hin hfl).mono ?_
        rintro e w'' ⟨rfl, rfl⟩
        go_wp2
        go_round
        case rel => exact ⟨k + 1, by omega, by go_num, by rw [HS.out]⟩
        case measure => simp [intOf]; omega
    · have hke : os.take k = os := List.take_of_length_le (by omega)
      rw [hke, ← hgl]
      have hGl : (grp os).length ≤ os.length := by omega
      have HG : Hid ((grp os).length = (accs os).length) := hgl
      clear hgl hal hke hak htl
      go_wp2
      go_loopw [7, 8] (fun p i wr => ∃ k : Nat, k ≤ (grp os).length ∧ i = .int .i64 k ∧ (∃ z : Int, p = .int .i64 z ∧ Hid (∀ h : k < (accs os).length, z < fpos os (accs os)[k])) ∧ ∃ n, wr = w2.drewN n) (fun _ i _ => (grp os).length - (intOf i).toNat)
      case atStart => exact ⟨0, Nat.zero_le _, rfl, ⟨-1, rfl, fun h => by show (-1 : Int) < _; omega⟩, 0, rfl⟩
      case round =>
        obtain ⟨k, hk, rfl, ⟨z, rfl, hz⟩, nd, rfl⟩ := hrel
        by_cases hlt : k < (grp os).length
        · obtain ⟨gb, gc, hcell, hgat⟩ := hg k hlt
          have hla : k < (accs os).length := by rw [← HG.out]; exact hlt
          have hzl := hz.out hla
          have hgp := grp_get_pos os k hlt
          have hma : (accs os)[k] ∈ accs os := List.getElem_mem hla
          have hfl := fpos_lt os _ hma
          have hgk := grp_get os k hlt
          obtain ⟨o0, l0, he0, ha0⟩ := only_head _ os hma
          have hcc : w2.cell? ⟨gb, 1, none⟩ = some (.int .i64 (accs os)[k]) := by
            have := hgat.c1 0 hgp
            simp only [Nat.zero_mul, Nat.zero_add] at this
            rw [this]
            have e : (grp os)[k][0] = o0 := by simp only [hgk, he0, List.getElem_cons_zero]
            rw [e, ha0]
          rw [hgk] at hcell hgat
          have hpos : 0 < (only (accs os)[k] os).length := by rw [he0]; simp
          have hnx : ∀ h : k + 1 < (accs os).length, ((fpos os (accs os)[k] : Nat) : Int) < fpos os (accs os)[k + 1] := fun h => by
            have := fpos_step os k h
            omega
          have HX : Hid (∀ h : k + 1 < (accs os).length, ((fpos os (accs os)[k] : Nat) : Int) < fpos os (accs os)[k + 1]) := hnx
          clear hnx he0 hgk hma hz
          obtain ⟨a, ha⟩ : ∃ a, a = (accs os)[k] := ⟨_, rfl⟩
          rw [← ha] at hcc hcell hgat hpos hfl hzl HX
          clear ha0 ha
          have hne0 : (((only a os).length : Int) == 0) = false := by rw [beq_eq_false_iff_ne]; omega
          have hle : decide ((fpos os a : Int) ≤ z) = false := by simp; omega
          go_wp2_with fail
          refine (firstPos_any _ 0 _ _ os _ hs' (hin.drewN nd) hfl).mono ?_
          rintro e w'' ⟨rfl, rfl⟩
          go_wp2_with fail
          refine (isFilter_any gb 0 gc _ 0 _ a os _ hs' (hin.drewN nd) (hgat.drewN nd) h0).mono ?_
          rintro e w'' ⟨rfl, nn, rfl⟩
          go_wp2
          go_roundw
          case rel => exact ⟨k + 1, by omega, by go_num, ⟨_, rfl, HX⟩, _, rfl⟩
          case measure => simp [intOf]; omega
        · go_wp2
          go_ret
          exact ⟨rfl, below_drewN' hbw nd⟩

set_option maxHeartbeats 800000 in
/-- No order: what toBench hands on is a slice of length 0, whatever its address. -/
theorem law1_empty (ao : Option Addr) (cap : Nat) (w : World)
    (htb : Calls Try.prog 7 #[.slice ao 0 cap] w fun e w' => ∃ ao' cap', e = .returned (.slice ao' 0 cap') ∧ Below w.heap.size w w') :
    Calls Try.prog 3 #[.slice ao 0 cap] w fun e w' => e = .returned (.bool true) ∧ Below w.heap.size w w' := by
  have HT : Hid (Calls Try.prog 7 #[.slice ao 0 cap] w fun e w' => ∃ ao' cap', e = .returned (.slice ao' 0 cap') ∧ Below w.heap.size w w') := htb
  clear htb
  go_enter Try.func3, Try.ntmps3
  go_wp2_with fail
  refine (zzBytes5_none ao cap [] _ (by simp) rfl).mono ?_
  rintro e w' ⟨⟨r, rfl⟩, rfl⟩
  cases r
  · go_wp2
    go_ret
    exact ⟨rfl, Below.refl _ _⟩
  go_wp2_with fail
  refine (over6_none ao cap _ [] _ (by simp) rfl).mono ?_
  rintro e w' ⟨⟨r, rfl⟩, rfl⟩
  cases r
  case true =>
    go_wp2
    go_ret
    exact ⟨rfl, Below.refl _ _⟩
  go_wp2_with fail
  refine HT.out.mono ?_
  rintro e w1 ⟨ao', cap', rfl, hb1⟩
  clear HT
  go_wp2_with fail
  refine (zzByAccount_empty ao' cap' _).mono ?_
  rintro e w2 ⟨rfl, hb2⟩
  have hbw : Below w'.heap.size w' w2 := hb1.trans (hb2.mono hb1.size)
  clear hb1 hb2
  go_wp2
  refine wp_loop_rounds 1 ?_
  rw [rounds_succ]
  go_wp2
  refine wp_loop_rounds 1 ?_
  rw [rounds_succ]
  go_wp2
  go_ret
  exact ⟨rfl, hbw⟩

theorem law1_nil (w : World) : Calls Try.prog 3 #[.slice none 0 0] w fun e w' => e = .returned (.bool true) ∧ Below w.heap.size w w' :=
  law1_empty none 0 w ((toBench_nil w).mono fun e w' ⟨he, hw⟩ => ⟨none, 0, he, by rw [hw]; exact Below.refl _ _⟩)

theorem law1_zero (ad : Addr) (cap : Nat) (w : World) : Calls Try.prog 3 #[.slice (some ad) 0 cap] w fun e w' => e = .returned (.bool true) ∧ Below w.heap.size w w' :=
  law1_empty (some ad) cap w ((toBench_empty ad cap w).mono fun e w' ⟨he, hw⟩ => ⟨_, 0, he, hw⟩)

end Go.Proofs.Qxb6630191a
