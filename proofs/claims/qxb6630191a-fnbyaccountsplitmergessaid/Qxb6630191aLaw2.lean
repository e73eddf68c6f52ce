import Derived.Test.Qxb6630191aConcat
import Derived.Deep.DeepCutAuto
namespace Go.Proofs.Qxb6630191a
open Go.RowKit Go.Maps
set_option linter.unusedVariables false

/-! ### plain -/
theorem filter_take_succ {α : Type} (p : α → Bool) (l : List α) (j : Nat) (hj : j < l.length) : (l.take (j + 1)).filter p = (l.take j).filter p ++ (if p l[j] then [l[j]] else []) := by
  rw [List.take_succ_eq_append_getElem hj, List.filter_append]
  by_cases h : p l[j] = true <;> simp [h]

theorem filter_hit {α : Type} (p : α → Bool) (l : List α) (j : Nat) (hj : j < l.length) (h : p l[j] = true) : (l.filter p)[((l.take j).filter p).length]? = some l[j] := by
  have e : l.filter p = (l.take (j + 1)).filter p ++ (l.drop (j + 1)).filter p := by rw [← List.filter_append, List.take_append_drop]
  rw [e, filter_take_succ p l j hj, if_pos h, List.getElem?_append_left (by simp)]
  simp

/-- Ids of the right part that the left part lacks. -/
def fresh (l : List Ord) (a : Int) : Bool := !(accs l).contains a

/-- Where the walk over the right part's groups stands in the whole's list. -/
def rpos (l r : List Ord) (j : Nat) : Nat := (accs l).length + (((accs r).take j).filter (fresh l)).length

theorem accs_lr (l r : List Ord) : accs (l ++ r) = accs l ++ (accs r).filter (fresh l) := accs_append l r

theorem whole_left (l r : List Ord) (i : Nat) (hi : i < (accs l).length) : (grp (l ++ r))[i]? = some (only (accs l)[i] l ++ only (accs l)[i] r) := by
  unfold grp
  rw [List.getElem?_map, accs_lr, List.getElem?_append_left hi, List.getElem?_eq_getElem hi]
  simp [only_append]

theorem whole_right (l r : List Ord) (j : Nat) (hj : j < (accs r).length) (h : (accs r)[j] ∉ accs l) : (grp (l ++ r))[rpos l r j]? = some (only (accs r)[j] r) := by
  unfold grp
  rw [List.getElem?_map, accs_lr]
  have hp : fresh l (accs r)[j] = true := by unfold fresh; simpa using h
  unfold rpos
  rw [List.getElem?_append_right (by omega), Nat.add_sub_cancel_left, filter_hit (fresh l) (accs r) j hj hp]
  simp [only_append, only_nil_of _ _ h]

theorem rpos_zero (l r : List Ord) : rpos l r 0 = (accs l).length := by simp [rpos]

theorem rpos_new (l r : List Ord) (j : Nat) (hj : j < (accs r).length) (h : (accs r)[j] ∉ accs l) : rpos l r (j + 1) = rpos l r j + 1 := by
  have hp : fresh l (accs r)[j] = true := by unfold fresh; simpa using h
  unfold rpos
  rw [filter_take_succ (fresh l) (accs r) j hj, if_pos hp]
  simp
  omega

theorem rpos_old (l r : List Ord) (j : Nat) (hj : j < (accs r).length) (h : (accs r)[j] ∈ accs l) : rpos l r (j + 1) = rpos l r j := by
  have hp : ¬ fresh l (accs r)[j] = true := by unfold fresh; simpa using h
  unfold rpos
  rw [filter_take_succ (fresh l) (accs r) j hj, if_neg hp]
  simp

theorem rpos_end (l r : List Ord) : rpos l r (accs r).length = (grp (l ++ r)).length := by
  rw [length_grp, accs_lr]
  unfold rpos
  rw [List.take_of_length_le (Nat.le_refl _)]
  simp

theorem rpos_le (l r : List Ord) (j : Nat) : rpos l r j ≤ (grp (l ++ r)).length := by
  rw [length_grp, accs_lr, List.length_append]
  unfold rpos
  have e : (accs r).filter (fresh l) = ((accs r).take j).filter (fresh l) ++ ((accs r).drop j).filter (fresh l) := by rw [← List.filter_append, List.take_append_drop]
  rw [e, List.length_append]
  omega

theorem total_grp (p : List Ord) : total (grp p) = p.length := sum_grp p

theorem At.take {w : World} {b off : Nat} {os : List Ord} (h : At w b off os) (k : Nat) : At w b off (os.take k) := by
  have e : ∀ i (hi : i < (os.take k).length), ∃ hi' : i < os.length, (os.take k)[i] = os[i] := fun i hi => ⟨by simp at hi; omega, by simp⟩
  refine ⟨?_, ?_, ?_, ?_, ?_, ?_⟩
  all_goals
    intro i hi
    obtain ⟨hi', ee⟩ := e i hi
    rw [ee]
  · exact h.c0 i hi'
  · exact h.c1 i hi'
  · exact h.c2 i hi'
  · exact h.c3 i hi'
  · exact h.c4 i hi'
  · exact h.c5 i hi'

theorem At.drop {w : World} {b off : Nat} {os : List Ord} (h : At w b off os) (k : Nat) : At w b (off + k * 6) (os.drop k) := by
  have e : ∀ i (hi : i < (os.drop k).length), ∃ hi' : k + i < os.length, (os.drop k)[i] = os[k + i] := fun i hi => ⟨by simp at hi; omega, by simp⟩
  refine ⟨?_, ?_, ?_, ?_, ?_, ?_⟩
  all_goals
    intro i hi
    obtain ⟨hi', ee⟩ := e i hi
    rw [ee, show off + k * 6 + i * 6 = off + (k + i) * 6 by omega]
  · exact h.c0 _ hi'
  · exact h.c1 _ hi'
  · exact h.c2 _ hi'
  · exact h.c3 _ hi'
  · exact h.c4 _ hi'
  · exact h.c5 _ hi'

theorem grp_cell {w : World} {ab : Nat} {gss : List (List Ord)} (hg : GAt w ab gss) (i : Nat) (g : List Ord) (h : gss[i]? = some g) :
    ∃ gb gc m, w.cell? ⟨ab, i, none⟩ = some (.slice (some ⟨gb, 0, none⟩) m gc) ∧ m = g.length ∧ At w gb 0 g ∧ i < gss.length := by
  have hi : i < gss.length := by
    rcases Nat.lt_or_ge i gss.length with e | e
    · exact e
    · rw [List.getElem?_eq_none e] at h; cases h
  have e : gss[i] = g := by rw [List.getElem?_eq_getElem hi] at h; simpa using h
  subst e
  obtain ⟨gb, gc, hc, hat⟩ := hg i hi
  exact ⟨gb, gc, _, hc, rfl, hat, hi⟩

theorem grp_at (p : List Ord) (i : Nat) (h : i < (accs p).length) : (grp p)[i]? = some (only (accs p)[i] p) := by
  unfold grp
  rw [List.getElem?_map, List.getElem?_eq_getElem h]
  rfl

theorem glie_some {w : World} {ao : Option Addr} {gss : List (List Ord)} (h : GLie w ao gss) (hp : 0 < gss.length) : ∃ ab, ao = some ⟨ab, 0, none⟩ ∧ GAt w ab gss := by
  rcases h with h | h
  · rw [h] at hp; simp at hp
  · exact h

set_option maxHeartbeats 4000000 in
set_option maxRecDepth 100000 in
theorem law2_some (b off cap : Nat) (kk : Int) (os : List Ord) (w : World) (hs : os.length ≤ 9223372036854775807) (h0 : 0 < os.length) (hat : At w b off os) (hwf : ∀ o ∈ os, (Lit.int .i64 o.acc).wf = true) :
    Calls Try.prog 4 #[.slice (some ⟨b, off, none⟩) os.length cap, .int .i64 kk] w fun e w' => e = .returned (.bool true) ∧ Below w.heap.size w w' := by
  go_enter Try.func4, Try.ntmps4
  go_wp2_with fail
  refine (zzBytes11_some b off cap kk os _ hs hat).mono ?_
  rintro e w' ⟨⟨r, rfl⟩, rfl⟩
  cases r
  · go_wp2
    go_ret
    exact ⟨rfl, Below.refl _ _⟩
  by_cases hbig : 4096 < os.length
  · go_wp2
    go_ret
    exact ⟨rfl, Below.refl _ _⟩
  have hs' : os.length ≤ 4096 := by omega
  have hdec : decide ((4096 : Int) < (os.length : Int)) = false := by simp; omega
  go_wp2_with fail
  refine (over6_some b off cap _ os _ hs hat).mono ?_
  rintro e w' ⟨⟨r, rfl⟩, rfl⟩
  cases r
  case true =>
    go_wp2
    go_ret
    exact ⟨rfl, Below.refl _ _⟩
  by_cases hk1 : kk < 0
  · go_wp2
    go_ret
    exact ⟨rfl, Below.refl _ _⟩
  by_cases hk2 : (os.length : Int) < kk
  · go_wp2
    go_ret
    exact ⟨rfl, Below.refl _ _⟩
  obtain ⟨k, rfl⟩ := Int.eq_ofNat_of_zero_le (show 0 ≤ kk by omega)
  have hkl : k ≤ os.length := by omega
  have hd1 : decide ((k : Int) < 0) = false := by simp
  have hd2 : decide ((os.length : Int) < (k : Int)) = false := by simp; omega
  clear hk1 hk2
  go_wp2_with fail
  refine (toBench_some b off cap os _ hs' hat).mono ?_
  rintro e w1 ⟨rfl, hown, hb1⟩
  have hin1 := at_of_owns rfl hown
  clear hown
  go_wp2_with fail
  refine (zzBy_any _ _ _ os _ rfl hs' (.inr ⟨_, _, rfl, hin1⟩) hwf).mono ?_
  rintro e w2 ⟨wa, wcp, rfl, hgw, hb2⟩
  have hin2 := hin1.below hb2
  have hbw2 : Below w'.heap.size w' w2 := hb1.trans (hb2.mono hb1.size)
  clear hin1 hb1 hb2
  generalize w'.heap.size = ib at hin2 ⊢
  go_wp2_with fail
  refine (zzBy_any _ _ _ (os.take k) _ (by simp; omega) (by simp; omega) (.inr ⟨_, _, rfl, hin2.take k⟩) (fun o ho => hwf o (List.mem_of_mem_take ho))).mono ?_
  rintro e w3 ⟨la, lc, rfl, hgl3, hb3⟩
  have hin3 := hin2.below hb3
  have hgw3 := hgw.below hb3
  have hbw3 : Below w'.heap.size w' w3 := hbw2.trans (hb3.mono hbw2.size)
  clear hin2 hgw hb3 hbw2
  obtain ⟨l, hl⟩ : ∃ l, l = os.take k := ⟨_, rfl⟩
  obtain ⟨r, hr⟩ : ∃ r, r = os.drop k := ⟨_, rfl⟩
  have hos : os = l ++ r := by rw [hl, hr, List.take_append_drop]
  have hll : l.length = k := by rw [hl]; simp; omega
  have hrl : r.length + k = os.length := by rw [hr]; simp; omega
  rw [← hl] at hgl3 ⊢
  have HO : Hid (os = l ++ r ∧ l.length = k) := ⟨hos, hll⟩
  have HR : Hid (r = os.drop k) := hr
  clear hos hll hl hr
  go_upto_region 12 with fail
  go_cut [8] (fun v wc => ∃ ra rc, v = .slice ra (grp r).length rc ∧ GLie wc ra (grp r) ∧ GLie wc wa (grp os) ∧ GLie wc la (grp l) ∧ Below w'.heap.size w' wc)
  case first =>
    by_cases hke : k = os.length
    · subst hke
      go_wp2_with fail
      refine (zzBy_any _ _ _ r _ (by omega) (by omega) (.inl (by rw [HR.out]; simp)) (fun o ho => hwf o (List.mem_of_mem_drop (by rw [HR.out] at ho; exact ho)))).mono ?_
      rintro e w4 ⟨ra, rc, rfl, hgr, hb4⟩
      go_wp2
      go_meet
      case rel => exact ⟨ra, rc, rfl, hgr, hgw3.below hb4, hgl3.below hb4, hbw3.trans (hb4.mono hbw3.size)⟩
    · have hke' : ¬ os.length = k := fun e => hke e.symm
      go_wp2_with fail
      refine (zzBy_any _ _ _ r _ (by omega) (by omega) (.inr ⟨_, _, rfl, by have := hin3.drop k; rw [Nat.zero_add, ← HR.out] at this; exact this⟩) (fun o ho => hwf o (List.mem_of_mem_drop (by rw [HR.out] at ho; exact ho)))).mono ?_
      rintro e w4 ⟨ra, rc, rfl, hgr, hb4⟩
      go_wp2
      go_meet
      case rel => exact ⟨ra, rc, rfl, hgr, hgw3.below hb4, hgl3.below hb4, hbw3.trans (hb4.mono hbw3.size)⟩
  case rest =>
    obtain ⟨ra, rc, rfl, hgr, hgw, hgl, hbw⟩ := hcut
    clear hin3 hgw3 hgl3 hbw3
    have hGle : (grp os).length ≤ 4096 := by rw [length_grp]; exact Nat.le_trans (length_accs_le os) hs'
    have hLle : (grp l).length ≤ l.length := by rw [length_grp]; exact length_accs_le l
    have hRle : (grp r).length ≤ r.length := by rw [length_grp]; exact length_accs_le r
    have hl4 : l.length ≤ 4096 := by have := HO.out.2; omega
    have hr4 : r.length ≤ 4096 := by omega
    have hne : ((r.length : Int) != (os.length : Int) - (k : Int)) = false := by simp; omega
    clear hrl
    obtain ⟨wb, rfl, hgw'⟩ := glie_some hgw (grp_pos h0)
    clear hat hwf
    go_wp2_with fail
    refine (countAll_any la lc (grp l) _ (by omega) (by rw [total_grp]; exact hl4) hgl).mono ?_
    rintro e w5 ⟨rfl, rfl⟩
    rw [total_grp, HO.out.2]
    go_wp2_with fail
    refine (countAll_any ra rc (grp r) _ (by omega) (by rw [total_grp]; exact hr4) hgr).mono ?_
    rintro e w5 ⟨rfl, rfl⟩
    rw [total_grp]
    go_wp2
    go_loopw [9, 10] (fun q i wr => ∃ m : Nat, m ≤ (grp l).length ∧ i = .int .i64 m ∧ q = .int .i64 m ∧ ∃ n, wr = w5.drewN n) (fun _ i _ => (grp l).length - (intOf i).toNat)
    case atStart => exact ⟨0, Nat.zero_le _, rfl, rfl, 0, rfl⟩
    case round =>
      obtain ⟨m, hm, rfl, rfl, nd, rfl⟩ := hrel
      by_cases hlt : m < (grp l).length
      · generalize hWd : w5.drewN nd = W
        have HW0 : Hid (w5.drewN nd = W) := hWd
        have hglW : GLie W la (grp l) := hWd ▸ hgl.drewN nd
        have hgrW : GLie W ra (grp r) := hWd ▸ hgr.drewN nd
        have hgwW : GAt W wb (grp os) := hWd ▸ hgw'.drewN nd
        clear hWd
        obtain ⟨lb, rfl, hgl'⟩ := glie_some hglW (by omega)
        have hma : m < (accs l).length := by rw [← length_grp]; exact hlt
        obtain ⟨lgb, lgc, lm, hlc, hlm, hlpos, hlm4, hlat, hlc1⟩ := grp_first hgl' m hlt
        have hgm : (grp l)[m] = only (accs l)[m] l := grp_get l m hlt
        rw [hgm] at hlm hlat
        have hwm := whole_left l r m hma
        rw [← HO.out.1] at hwm
        obtain ⟨a, ha⟩ : ∃ a, a = (accs l)[m] := ⟨_, rfl⟩
        rw [← ha] at hlc1 hlm hlat hwm
        obtain ⟨wgb, wgc, wm, hwc, hwlen, hwat, hmG⟩ := grp_cell hgwW m _ hwm
        rw [List.length_append, ← hlm] at hwlen
        have HA : Hid (a = (accs l)[m]) := ha
        have HLM : Hid (lm = (only a l).length) := hlm
        have hne0 : ((lm : Int) == 0) = false := by rw [beq_eq_false_iff_ne]; omega
        have hi0 : (0 : Int) < (lm : Int) := by omega
        have hge : decide (((grp os).length : Int) ≤ (m : Int)) = false := by simp; omega
        have hmG' : (m : Int) < ((grp os).length : Int) := by omega
        have hmL' : (m : Int) < ((grp l).length : Int) := by omega
        clear ha hlm hgm hwm
        by_cases hit : a ∈ accs r
        · obtain ⟨j, hj, hja⟩ := List.getElem_of_mem hit
          have hjG : j < (grp r).length := by rw [length_grp]; exact hj
          obtain ⟨rb, rfl, hgr'⟩ := glie_some hgrW (by omega)
          have hrj := grp_at r j hj
          rw [hja] at hrj
          obtain ⟨rgb, rgc, rm, hrc, hrlen, hrat, _⟩ := grp_cell hgr' j _ hrj
          have HJ : Hid ((accs r)[j] = a) := hja
          have HW : Hid (wm = lm + (only a r).length ∧ rm = (only a r).length) := ⟨hwlen, hrlen⟩
          have hwm4 : wm ≤ 4096 := by
            have := length_only_le a r
            have h1 : lm + (only a r).length ≤ os.length := by
              rw [HLM.out, HO.out.1, ← List.length_append, ← only_append]
              exact length_only_le _ _
            omega
          clear hrj hja hwlen hrlen
          go_wp2_with fail
          refine (groupOf_hit rb rc r a j _ hr4 hgr' hj HJ.out).mono ?_
          rintro e w6 ⟨rfl, rfl⟩
          go_wp2
          go_quiet ((go_at_call 14; exact Calls.quiet_of (isConcat_hit wgb 0 wm wgc lgb 0 lm lgc rb (grp r).length rc rgb 0 rm rgc j (only a l) (only a r) _ (by have := HW.out; omega) HLM.out HW.out.2 hwm4 (by omega) hjG (hwat.drewN _) (hlat.drewN _) (by simpa using hrc) (hrat.drewN _))))
          go_wp2
          go_roundw
          case rel => exact ⟨m + 1, by omega, by go_num, by go_num, _, by rw [← HW0.out]; exact World.drewN_drewN _ _ _⟩
          case measure => simp [intOf]; omega
        · have hrn := only_nil_of a r hit
          rw [hrn, List.append_nil] at hwat
          rw [hrn] at hwlen
          have hwl : wm = lm := by simpa using hwlen
          subst hwl
          clear hwlen
          go_wp2_with fail
          refine (groupOf_miss ra rc r a _ hr4 hgrW hit).mono ?_
          rintro e w6 ⟨rfl, rfl⟩
          go_wp2
          go_quiet ((go_at_call 14; exact Calls.quiet_of (isConcat_miss wgb 0 wgc lgb 0 wm lgc ra (grp r).length rc (only a l) _ HLM.out (by omega) (hwat.drewN _) (hlat.drewN _))))
          go_wp2
          go_roundw
          case rel => exact ⟨m + 1, by omega, by go_num, by go_num, _, by rw [← HW0.out]; exact World.drewN_drewN _ _ _⟩
          case measure => simp [intOf]; omega
      · have hme : m = (grp l).length := by omega
        subst hme
        have hr0 : rpos l r 0 = (grp l).length := by rw [rpos_zero, length_grp]
        have HR0 : Hid (rpos l r 0 = (grp l).length) := hr0
        clear hr0
        go_wp2
        go_loopw [9, 12] (fun q i wr => ∃ m : Nat, m ≤ (grp r).length ∧ i = .int .i64 m ∧ q = .int .i64 (rpos l r m) ∧ ∃ n, wr = w5.drewN n) (fun _ i _ => (grp r).length - (intOf i).toNat)
        case atStart => exact ⟨0, Nat.zero_le _, rfl, by rw [HR0.out], nd, rfl⟩
        case round =>
          obtain ⟨m, hm, rfl, rfl, nd', rfl⟩ := hrel
          have hrp := rpos_le l r m
          rw [← HO.out.1] at hrp
          by_cases hlt : m < (grp r).length
          · generalize hWd : w5.drewN nd' = W
            have HW0 : Hid (w5.drewN nd' = W) := hWd
            have hglW : GLie W la (grp l) := hWd ▸ hgl.drewN nd'
            have hgrW : GLie W ra (grp r) := hWd ▸ hgr.drewN nd'
            have hgwW : GAt W wb (grp os) := hWd ▸ hgw'.drewN nd'
            clear hWd
            obtain ⟨rb, rfl, hgr'⟩ := glie_some hgrW (by omega)
            have hma : m < (accs r).length := by rw [← length_grp]; exact hlt
            obtain ⟨rgb, rgc, rm, hrc, hrm, hrpos, hrm4, hrat, hrc1⟩ := grp_first hgr' m hlt
            have hgm : (grp r)[m] = only (accs r)[m] r := grp_get r m hlt
            rw [hgm] at hrm hrat
            have hne0 : ((rm : Int) == 0) = false := by rw [beq_eq_false_iff_ne]; omega
            have hi0 : (0 : Int) < (rm : Int) := by omega
            have hmR' : (m : Int) < ((grp r).length : Int) := by omega
            by_cases hit : (accs r)[m] ∈ accs l
            · have hro := rpos_old l r m hma hit
              obtain ⟨j, hj, hja⟩ := List.getElem_of_mem hit
              obtain ⟨a, ha⟩ : ∃ a, a = (accs r)[m] := ⟨_, rfl⟩
              rw [← ha] at hrc1 hja
              have HRO : Hid (rpos l r (m + 1) = rpos l r m) := hro
              have HJ : Hid ((accs l)[j] = a) := hja
              have hjG : j < (grp l).length := by rw [length_grp]; exact hj
              obtain ⟨lb, rfl, hgl'⟩ := glie_some hglW (by omega)
              clear hgm hrm hrat hro hja hit ha
              have hjge : decide ((0 : Int) ≤ (j : Int)) = true := by simp
              go_wp2_with fail
              refine (groupOf_hit lb lc l a j _ hl4 hgl' hj HJ.out).mono ?_
              rintro e w6 ⟨rfl, rfl⟩
              go_wp2
              go_roundw
              case rel => exact ⟨m + 1, by omega, by go_num, by rw [HRO.out], nd', by rw [← HW0.out]⟩
              case measure => simp [intOf]; omega
            · have hro := rpos_new l r m hma hit
              have hwm := whole_right l r m hma hit
              rw [← HO.out.1] at hwm
              obtain ⟨a, ha⟩ : ∃ a, a = (accs r)[m] := ⟨_, rfl⟩
              rw [← ha] at hrc1 hrm hrat hit hwm
              obtain ⟨wgb, wgc, wm, hwc, hwlen, hwat, hmG⟩ := grp_cell hgwW _ _ hwm
              rw [← hrm] at hwlen
              subst hwlen
              have HRO : Hid (rpos l r (m + 1) = rpos l r m + 1) := hro
              have HRM : Hid (wm = (only a r).length) := hrm
              clear hgm hrm hro ha hwm
              have hge : decide (((grp os).length : Int) ≤ (rpos l r m : Int)) = false := by simp; omega
              have hmG' : (rpos l r m : Int) < ((grp os).length : Int) := by omega
              go_wp2_with fail
              refine (groupOf_miss la lc l a _ hl4 hglW hit).mono ?_
              rintro e w6 ⟨rfl, rfl⟩
              go_wp2
              go_quiet ((go_at_call 15; exact Calls.quiet_of (sameGroup_any wgb 0 wm wgc rgb 0 rgc (only a r) _ HRM.out (by omega) (hwat.drewN _) (hrat.drewN _))))
              go_wp2
              go_roundw
              case rel => exact ⟨m + 1, by omega, by go_num, by rw [HRO.out]; go_num, _, by rw [← HW0.out]; exact World.drewN_drewN _ _ _⟩
              case measure => simp [intOf]; omega
          · have hme : m = (grp r).length := by omega
            have hend : rpos l r m = (grp os).length := by rw [hme, length_grp, rpos_end, ← HO.out.1]
            rw [hend]
            go_wp2
            go_ret
            exact ⟨by simp, below_drewN' hbw nd'⟩
end Go.Proofs.Qxb6630191a
