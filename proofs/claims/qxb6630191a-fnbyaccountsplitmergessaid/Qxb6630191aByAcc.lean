import Derived.Test.Qxb6630191aRowsOf
import Derived.Deep.RegionHeld3
import Derived.Deep.RegionLaw
namespace Go.Proofs.Qxb6630191a
open Go.RowKit Go.Maps
set_option linter.unusedVariables false

theorem Try.info25 : (Try.prog.info? 25).map (fun i => (i.zero, i.size, i.bytes)) = some (some (.slice none 0 0), 1, 24) := by kernel_rfl
theorem law2 : Keyed Try.prog 2 := int_keyed Try.underlying2
theorem zero3 (w : World) : (zeroValue 3).run Try.prog w = .ok (.int .i64 0) w := by kernel_rfl

structure AInv (w : World) (os : List Ord) (k : Nat) (va : Value) (wr : World) : Prop where
  below : Below w.heap.size w wr
  lt : w.heap.size < wr.heap.size
  map : ∃ D : DataW Unit, wr.ownsMap Try.prog 2 (plainElem Try.prog 3) w.heap.size k D ∧ MInv D (accs (os.take k))
  rows : ∃ vs, RowsV (w.heap.size + 1) wr va vs (grp (os.take k))

theorem ainv_push {w w2 w3 w4 : World} {os : List Ord} {k q ab ac gg cap2 : Nat} {D : DataW Unit} {vs : List Value} {gs : List (List Ord)} {g : List Ord} {o : Ord} {v : Value}
    (hb : Below w.heap.size w w2) (hlt : w.heap.size < w2.heap.size) (hown : w2.ownsMap Try.prog 2 (plainElem Try.prog 3) w.heap.size (k + 1) D) (hD : MInv D (accs (os.take (k + 1))))
    (hrows : RowsV (w.heap.size + 1) w2 (.slice (some ⟨ab, 0, none⟩) gs.length ac) vs gs) (hg : gs[q]? = some g) (hv : vs[q]? = some v) (hset : gs.set q (g ++ [o]) = grp (os.take (k + 1)))
    (h3 : w2.grownBy w3 none) (h4 : w4.ownsRow (w.heap.size + 1) 31 6 (.slice (some ⟨gg, 0, none⟩) (g.length + 1) cap2) (g.length + 1) (flat g ++ ordCells o)) (hgr : w3.grownBy w4 v.ownBlock)
    (hat : v.ownBlock = some gg ∨ gg = w3.heap.size) :
    AInv w os (k + 1) (.slice (some ⟨ab, 0, none⟩) gs.length ac) (w4.setCell ⟨ab, q, none⟩ (.slice (some ⟨gg, 0, none⟩) (g.length + 1) cap2)) := by
  have hvo := hrows.each q g v hg hv
  have hvlt := hvo.lt
  have hab := hrows.own.lt ab rfl
  have hs3 := h3.size
  have hs4 := hgr.size
  have hp := hrows.push hg hv h3 h4 hgr hat
  rw [hset] at hp
  refine ⟨?_, ?_, ⟨D, ?_, hD⟩, ⟨_, hp⟩⟩
  · have hb3 : Below w.heap.size w w3 := hb.grown h3 hb.size (fun j hj => by cases hj)
    have hb4 : Below w.heap.size w w4 := hb3.grown hgr (Nat.le_trans hb.size hs3) (fun j hj => by
      have := hvlt j hj
      omega)
    exact hb4.setCell (p := ⟨ab, q, none⟩) (show w.heap.size ≤ ab by omega) _
  · simp only [World.setCell, Array.size_modify]
    omega
  · refine World.ownsMap.setCell ((hown.kept h3 (by simp)).kept hgr ?_) (show w.heap.size ≠ ab by omega) _
    intro e
    have := hvlt _ e.symm
    omega

theorem heap_two (w : World) (o1 o2 : Obj) : ((w.alloc o1).alloc o2).drew.heap[w.heap.size + 1]? = some o2 := by
  have h1 := heap_alloc_new (w.alloc o1) o2
  have h2 : (w.alloc o1).heap.size = w.heap.size + 1 := by simp
  rw [h2] at h1
  exact h1

theorem grown_alloc_drew (w : World) (o : Obj) (row : Option Nat) : w.grownBy (w.alloc o).drew row :=
  ⟨(World.grownBy_alloc w o row).os, (World.grownBy_alloc w o row).tape, (World.grownBy_alloc w o row).output, (World.grownBy_alloc w o row).size, (World.grownBy_alloc w o row).block⟩

theorem or_size {p : Prop} {a b c : Nat} (h : p ∨ a = b) (e : b = c) : p ∨ a = c := e ▸ h

/-- What lies in a block that neither the map's store nor the append touched. -/
theorem block_stays {w1 w2 w3 : World} {bm g : Nat} {row : Option Nat} {o o3 : Obj} (hb : w1.heap[g]? = some o) (h1 : w1.grownBy w2 (some bm)) (h2 : (w2.alloc o3).grownBy w3 row) (hne : g ≠ bm) (hr : row = none ∨ row ≠ some g) : w3.heap[g]? = some o := by
  have hlt : g < w1.heap.size := by
    rcases Nat.lt_or_ge g w1.heap.size with h | h
    · exact h
    · rw [Array.getElem?_eq_none h] at hb; cases hb
  have hlt2 : g < w2.heap.size := Nat.lt_of_lt_of_le hlt h1.size
  have e2 : w2.heap[g]? = some o := (h1.block g hlt (by simpa using hne)).trans hb
  have e3 : (w2.alloc o3).heap[g]? = some o := (Below.heap_alloc w2 o3 g hlt2).trans e2
  refine (h2.block g (by simp; omega) ?_).trans e3
  rcases hr with e | e
  · rw [e]; simp
  · exact fun h => e h.symm

theorem ownsRow_shape {w : World} {base e size : Nat} {v : Value} {n : Nat} {xs : List Value} (h : w.ownsRow base e size v n xs) : ∃ ao cap, v = .slice ao n cap := by
  rcases h.2 with ⟨rfl, rfl⟩ | ⟨g, cap, cur, rfl, _⟩
  · exact ⟨none, 0, rfl⟩
  · exact ⟨_, _, rfl⟩

set_option maxHeartbeats 1600000 in
set_option maxRecDepth 100000 in
theorem byAccount_some (b off cap : Nat) (os : List Ord) (w : World) (hs : os.length ≤ 4096) (hat : At w b off os) (hwf : ∀ o ∈ os, (Lit.int .i64 o.acc).wf = true) :
    Calls Try.prog 16 #[.slice (some ⟨b, off, none⟩) os.length cap] w fun e w' => ∃ va, e = .returned va ∧ AInv w os os.length va w' := by
  have hmm := @run_makeMap Try.prog
  obtain ⟨i0, hi, hz0, hz1, hz2⟩ := info_parts Try.info31
  obtain ⟨i1, gi, gz0, gz1, gz2⟩ := info_parts Try.info25
  go_enter Try.func16, Try.ntmps16
  go_wp2
  go_loopw [3, 12] (fun va i wr => ∃ k : Nat, k ≤ os.length ∧ i = .int .i64 k ∧ AInv w os k va wr) (fun _ i _ => os.length - (intOf i).toNat)
  case atStart => exact ⟨0, Nat.zero_le _, rfl, ⟨(Below.refl _ _).alloc (Nat.le_refl _) _, by simp, ⟨_, World.ownsMap_made _ _ _ _, minv_start⟩, ⟨[], rows_start _ _⟩⟩⟩
  case round =>
    obtain ⟨k, hk, rfl, hinv⟩ := hrel
    by_cases hlt : k < os.length
    · have hatr := hat.below hinv.below
      have hc0 := hatr.c0 k hlt
      have hc1 := hatr.c1 k hlt
      have hc2 := hatr.c2 k hlt
      have hc3 := hatr.c3 k hlt
      have hc4 := hatr.c4 k hlt
      have hc5 := hatr.c5 k hlt
      obtain ⟨D, hown, hD⟩ := hinv.map
      obtain ⟨vs, hrows⟩ := hinv.rows
      have hkey : keyOf Try.prog 2 (.int .i64 os[k].acc) = some (.int .i64 os[k].acc) := keyOf_int_mk Try.underlying2 (hwf _ (List.getElem_mem hlt))
      have hgl := length_grp (os.take k)
      have hal := length_accs_le (os.take k)
      have htl : (os.take k).length ≤ k := List.length_take_le _ _
      have hwlt := hinv.lt
      by_cases hm : os[k].acc ∈ accs (os.take k)
      · obtain ⟨q, hql, hq⟩ := List.getElem_of_mem hm
        have hq' : (accs (os.take k))[q]? = some os[k].acc := by rw [List.getElem?_eq_getElem hql, hq]
        have hhas : Maps.has D (.int .i64 os[k].acc) = true := by rw [(hD _).1]; simpa using hm
        have hat0 := (hD _).2 q hq'
        have hqg : q < (grp (os.take k)).length := by omega
        have hgq : (grp (os.take k))[q]? = some (only os[k].acc (os.take k)) := by simp [grp, hq']
        have hvl := hrows.len
        obtain ⟨v, hv⟩ : ∃ v, vs[q]? = some v := ⟨vs[q], List.getElem?_eq_getElem (by omega)⟩
        have hvo := hrows.each q _ v hgq hv
        obtain ⟨oh, ol, hoh, _⟩ := only_head _ _ hm
        have hpos : 0 < (only os[k].acc (os.take k)).length := by rw [hoh]; simp
        obtain ⟨gb, gc, rfl, hgb1, hgb2⟩ := hvo.form hpos
        obtain ⟨ab, ac, rfl, hab1, hab2⟩ := hrows.own.form (by omega)
        have hcell : wr.cell? ⟨ab, q, none⟩ = some (.slice (some ⟨gb, 0, none⟩) (only os[k].acc (os.take k)).length gc) := by
          rw [hrows.own.cellAt q (by omega)]; exact hv
        have hfz : wr.frozen? ⟨ab, q, none⟩ = false := hrows.own.frozenAt q
        have hfz1 : ∀ o, (wr.alloc o).frozen? ⟨ab, q, none⟩ = false := fun o => (World.frozen?_alloc_past o ab q hab2).trans hfz
        have hfz2 : ∀ o o', ((wr.alloc o).alloc o').frozen? ⟨ab, q, none⟩ = false := fun o o' => (World.frozen?_alloc_past o' ab q (by simp; omega)).trans (hfz1 o)
        have hne : ab ≠ gb := by
          have := ne_block hrows.own hvo (by decide)
          simpa [Value.ownBlock] using this
        have hq0 : (0 : Int) ≤ (q : Int) := Int.natCast_nonneg _
        have hq1 : (q : Int) < ((grp (os.take k)).length : Int) := by omega
        have hol := length_only_le os[k].acc (os.take k)
        obtain ⟨eacc, egrp⟩ := grp_old (os.take k) os[k] q hq'
        rw [← take_snoc os k hlt] at eacc egrp
        have HE : Hid (accs (os.take (k + 1)) = accs (os.take k) ∧ grp (os.take (k + 1)) = (grp (os.take k)).set q (only os[k].acc (os.take k) ++ [os[k]])) := ⟨eacc, egrp⟩
        have HQ : Hid ((grp (os.take k))[q]? = some (only os[k].acc (os.take k)) ∧ D.atKey (.int .i64 os[k].acc) (.lit (.int .i64 0)) = .lit (.int .i64 q)) := ⟨hgq, hat0⟩
        have HV : Hid (vs[q]? = some (.slice (some ⟨gb, 0, none⟩) (only os[k].acc (os.take k)).length gc)) := hv
        clear eacc egrp hq hq' hgq hoh hv hat0 hgl
        go_wp2_with (first
          | (at_lookup; refine wpList_lookup_own_ok_int _ rfl _ _ 38 rfl 2 3 .i64 law2 Try.underlying38 Try.underlying3 (zero3 _) w.heap.size k D rfl (hown.alloc _) _ _ rfl hkey ?_; intro c hatc hwc; obtain rfl : c = (q : Int) := (by rw [HQ.out.2] at hatc; simpa using hatc.symm); clear hatc hwc)
          | fail)
        go_region_law
          ((refine step_append_lies _ (by rfl) _ _ _ (by rfl) (w.heap.size + 1) 31 i0 _ 6 72 Try.underlying25 hi hz0 hz1 hz2 rfl (by omega) (.slice (some ⟨gb, 0, none⟩) (only os[k].acc (os.take k)).length gc) (only os[k].acc (os.take k)).length (flat (only os[k].acc (os.take k))) (by rfl) (((hvo.alloc _).alloc _).drew) ⟨wr.heap.size + 1, 0, none⟩ 1 1 (ordCells os[k]) (by rfl) (by rfl) (World.news_of_block (cs := #[.int .i64 os[k].id, .int .i64 os[k].acc, .string os[k].bank, .string os[k].accTo, .int .i64 os[k].amt, .string os[k].ks]) (t := 31) (fr := (0, 0)) (heap_two _ _ _)) (by simp [ordCells, Value.oneCell']) (by omega) (by unfold maxLen; omega) (by omega) (by simp; omega) (wr.heap.size + 2) (by simp) ?_; intro gg cap2 w1 hown1 hgrow hatg hltg; have hcw := hgrow.cell_far ⟨ab, q, none⟩ (by simp; omega) (by simp [Value.ownBlock]; omega); have hfw := hgrow.frozen_far ⟨ab, q, none⟩ (by simp; omega) (by simp [Value.ownBlock]; omega); rw [World.frozen?_drew, hfz2] at hfw))
        all_goals
          clear hcw hfw
          have R := ainv_push (w2 := wr.alloc _) (hinv.below.alloc hinv.below.size _) (by simp; omega) ((hown.alloc _).mono (Nat.le_succ k)) (by rw [HE.out.1]; exact hD) (hrows.kept (World.grownBy_alloc _ _ _)) HQ.out.1 HV.out (HE.out.2.symm) (grown_alloc_drew _ _ _) hown1 hgrow (or_size hatg (by simp))
          go_wp2
          go_roundw
          case rel => exact ⟨k + 1, by omega, by go_num, R⟩
          case measure => simp [intOf]; omega
      · have hhas : Maps.has D (.int .i64 os[k].acc) = false := by rw [(hD _).1]; simpa using hm
        obtain ⟨ao, ac, rfl⟩ := ownsRow_shape hrows.own
        have hrl := hrows.own.lt
        obtain ⟨eacc, egrp⟩ := grp_new (os.take k) os[k] hm
        rw [← take_snoc os k hlt] at eacc egrp
        have hD' := hD.put hown.isMap hm
        rw [← eacc, ← hgl] at hD'
        have HE : Hid (grp (os.take (k + 1)) = grp (os.take k) ++ [[os[k]]]) := egrp
        have HD : Hid (MInv (D.put (.int .i64 os[k].acc) (.lit (.int .i64 (grp (os.take k)).length))) (accs (os.take (k + 1)))) := hD'
        have hgb : (grp (os.take k)).length ≤ 4096 := by omega
        clear eacc egrp hgl hD'
        go_wp2_with (first
          | (at_lookup; refine wpList_lookup_own_ok_int _ rfl _ _ 38 rfl 2 3 .i64 law2 Try.underlying38 Try.underlying3 (zero3 _) w.heap.size k D rfl (hown.alloc _) _ _ rfl hkey ?_; intro c hatc hwc; clear hatc hwc)
          | (at_mapUpdate; refine wpList_mapUpdate_own _ rfl _ _ _ 38 rfl 2 3 law2 Try.underlying38 _ w.heap.size k _ rfl (hown.alloc _) (by unfold maxLen; omega) _ _ _ rfl rfl hkey _ [] (plainElem_int Try.underlying3 (WalkArith.wf_i64 (by omega))) ?_; intro w2 hown2 hgrow2; have hrows2 := (hrows.kept (World.grownBy_alloc _ _ _)).keptMap hgrow2 (Exists.choose_spec (Exists.choose_spec (hown.alloc _))).1)
          | (at_builtin; refine wpList_append_lies _ rfl _ _ _ rfl (w.heap.size + 1) 25 i1 _ 1 24 Try.underlying27 gi gz0 gz1 gz2 rfl (by omega) (.slice ao (grp (os.take k)).length ac) (grp (os.take k)).length vs rfl ((hrows2.kept (World.grownBy_alloc _ _ _)).own) ⟨w2.heap.size, 0, none⟩ 1 1 [.slice none 0 0] rfl rfl (World.news_of_block (cs := #[.slice none 0 0]) (t := 25) (fr := (0, 0)) (heap_alloc_new _ _)) (by simp [Value.oneCell']) (by omega) (by unfold maxLen; omega) (by omega) (by have := hgrow2.size; simp at this ⊢; omega) (w2.heap.size + 1) (by simp) ?_; intro g3 cap3 w3 hown3 hgrow3 hat3 hlt3)
          | fail)
        obtain ⟨n, hn⟩ : ∃ n, n = (grp (os.take k)).length := ⟨_, rfl⟩
        have hvl := hrows.len
        have hr3 : RowsV (w.heap.size + 1) w3 (.slice (some ⟨g3, 0, none⟩) (grp (os.take k) ++ [[]]).length cap3) (vs ++ [.slice none 0 0]) (grp (os.take k) ++ [[]]) := by
          rw [List.length_append]
          exact hrows2.pushNil (World.grownBy_alloc _ _ none) hown3 hgrow3
        have hbl3 : Below w.heap.size w w3 := by
          have s2 := hgrow2.size
          simp at s2
          refine (((hinv.below.alloc hinv.below.size _).grown hgrow2 (by simp; omega) (fun j hj => by cases hj; exact Nat.le_refl _)).alloc (by omega) _).grown hgrow3 (by simp; omega) (fun j hj => ?_)
          have := hrl j hj
          omega
        have hob : w3.heap[wr.heap.size]? = some (.cells #[.int .i64 os[k].id, .int .i64 os[k].acc, .string os[k].bank, .string os[k].accTo, .int .i64 os[k].amt, .string os[k].ks] 31 (0, 0)) :=
          block_stays (heap_alloc_new wr _) hgrow2 hgrow3 (by omega) (by
            cases e : (Value.slice ao (grp (os.take k)).length ac).ownBlock with
            | none => exact .inl rfl
            | some j => right; have := hrl j e; simp only [ne_eq, Option.some.injEq]; omega)
        have hw3 : wr.heap.size < w3.heap.size := by
          have s2 := hgrow2.size
          have s3 := hgrow3.size
          simp at s2 s3
          omega
        have hg31 : w.heap.size + 1 ≤ g3 ∧ g3 < w3.heap.size := hown3.lt g3 rfl
        have hmap3 : w3.ownsMap Try.prog 2 (plainElem Try.prog 3) w.heap.size (k + 1) (D.put (.int .i64 os[k].acc) (.lit (.int .i64 (grp (os.take k)).length))) :=
          (hown2.alloc _).kept hgrow3 (fun e => by have := hrl _ e.symm; omega)
        have ho0 := cell_of_row w3 wr.heap.size 0 _ _ _ hob
        have ho1 := cell_of_row w3 wr.heap.size 1 _ _ _ hob
        have ho2 := cell_of_row w3 wr.heap.size 2 _ _ _ hob
        have ho3 := cell_of_row w3 wr.heap.size 3 _ _ _ hob
        have ho4 := cell_of_row w3 wr.heap.size 4 _ _ _ hob
        have ho5 := cell_of_row w3 wr.heap.size 5 _ _ _ hob
        simp at ho0 ho1 ho2 ho3 ho4 ho5
        have hcell : w3.cell? ⟨g3, (grp (os.take k)).length, none⟩ = some (.slice none 0 0) := by
          rw [hown3.cellAt _ (by omega), List.getElem?_append_right (by omega)]
          simp [hvl]
        have hfz : w3.frozen? ⟨g3, (grp (os.take k)).length, none⟩ = false := hown3.frozenAt _
        have hfz1 : ∀ o, (w3.alloc o).frozen? ⟨g3, (grp (os.take k)).length, none⟩ = false := fun o => (World.frozen?_alloc_past o g3 _ hg31.2).trans hfz
        have hset : (grp (os.take k) ++ [[]]).set n ([] ++ [os[k]]) = grp (os.take (k + 1)) := by
          rw [HE.out, hn]
          simp
        have HS : Hid ((grp (os.take k) ++ [[]]).set n ([] ++ [os[k]]) = grp (os.take (k + 1)) ∧ (grp (os.take k) ++ [[]])[n]? = some [] ∧ (vs ++ [.slice none 0 0])[n]? = some (.slice none 0 0)) := ⟨hset, by simp [hn], by rw [hn, ← hvl]; simp⟩
        rw [← hn] at hcell hfz hfz1 hmap3 hown3 HD hgb ⊢
        clear hset hob hown2 hgrow2 hrows2 hown3 hgrow3 hat3 hinv hrows hown hD hc0 hc1 hc2 hc3 hc4 hc5 hatr hrl hhas hkey hvl
        have HN : Hid (n = (grp (os.take k)).length) := hn
        clear hn
        have hn0 : (0 : Int) ≤ (n : Int) := Int.natCast_nonneg _
        obtain ⟨m, hm1⟩ : ∃ m, m = n + 1 := ⟨_, rfl⟩
        have hn1 : (n : Int) < (m : Int) := by omega
        rw [← hm1]
        have HM : Hid (m = n + 1) := hm1
        clear hm1
        go_region_law
          ((refine step_append_lies _ (by rfl) _ _ _ (by rfl) (w.heap.size + 1) 31 i0 _ 6 72 Try.underlying25 hi hz0 hz1 hz2 rfl (by omega) (.slice none 0 0) 0 (flat []) (by rfl) (World.ownsRow_nil _ _ _ _) ⟨w3.heap.size, 0, none⟩ 1 1 (ordCells os[k]) (by rfl) (by rfl) (World.news_of_block (cs := #[.int .i64 os[k].id, .int .i64 os[k].acc, .string os[k].bank, .string os[k].accTo, .int .i64 os[k].amt, .string os[k].ks]) (t := 31) (fr := (0, 0)) (heap_alloc_new w3 _)) (by simp [ordCells, Value.oneCell']) (by omega) (by unfold maxLen; omega) (by omega) (by simp; omega) (w3.heap.size + 1) (by simp) ?_; intro gg cap2 w4 hown4 hgrow4 hatg hltg; have hcw := hgrow4.cell_far ⟨g3, n, none⟩ (by simp; omega) (by simp [Value.ownBlock]); have hfw := hgrow4.frozen_far ⟨g3, n, none⟩ (by simp; omega) (by simp [Value.ownBlock]); rw [World.frozen?_drew, hfz1] at hfw))
        all_goals
          clear hcw hfw
          have R := ainv_push (w2 := w3) (q := n) (g := []) hbl3 (by omega) hmap3 (by rw [HN.out]; rw [HN.out] at HD; exact HD.out) hr3 HS.out.2.1 HS.out.2.2 HS.out.1 (grown_alloc_drew _ _ _) hown4 hgrow4 (or_size hatg (by simp))
          rw [List.length_append, ← HN.out, List.length_singleton, ← HM.out] at R
          go_wp2
          go_roundw
          case rel => exact ⟨k + 1, by omega, by go_num, R⟩
          case measure => simp [intOf]; omega
    · have hke : k = os.length := by omega
      subst hke
      go_wp2
      go_ret
      exact ⟨_, rfl, hinv⟩
end Go.Proofs.Qxb6630191a
