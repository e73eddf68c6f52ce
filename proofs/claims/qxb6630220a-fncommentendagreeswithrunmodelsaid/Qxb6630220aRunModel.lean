import Derived.Test.Qxb6630220aModel
namespace Go.Proofs.Qxb6630220a
open Go.RowKit
set_option linter.unusedVariables false

theorem bget? (s : ByteArray) (i : Nat) (h : i < s.size) : s.data.toList[i]? = some s[i] := by
  have hl : i < s.data.toList.length := by rw [← Lib.size_eq s]; exact h
  rw [List.getElem?_eq_getElem hl]
  rfl

set_option maxHeartbeats 1600000 in
set_option maxRecDepth 100000 in
theorem runModel_any (s : ByteArray) (i : Nat) (w : World) (hs : s.size ≤ 1048576) (hi : i < s.size) :
    Calls Try.prog 7 #[.string s, .int .i64 i] w fun e w' => e = .returned (.int .i64 (ce s.data.toList i)) ∧ ∃ n, w' = w.drewN n := by
  have hsz := Lib.size_eq s
  have HZ : Hid (s.size = s.data.toList.length) := hsz
  clear hsz
  have hge : decide ((s.size : Int) ≤ (i : Int)) = false := by simp; omega
  have hge2 : decide (s.size ≤ i) = false := by simp; omega
  go_enter Try.func7, Try.ntmps7
  go_wp2
  go_loopg [6, 7] (s.size - i) (fun g dd aa wr => ∃ (a : Nat) (d : Int), g = s.size - a ∧ dd = .int .i64 d ∧ aa = .int .i64 a ∧ Run s.data.toList i a d ∧ ∃ n, wr = w.drewN n)
  case atStart => exact ⟨i, 0, rfl, rfl, rfl, ⟨rfl, by rw [← HZ.out]; omega, by omega, by omega⟩, 0, rfl⟩
  case round =>
    obtain ⟨a, d, hg, rfl, rfl, hrun, nd, rfl⟩ := hrel
    obtain ⟨hr1, hr2, hr3, hr4⟩ := hrun
    rw [← HZ.out] at hr2
    have HR : Hid (cend (s.data.toList.drop a) a d = cend (s.data.toList.drop i) i 0) := hr1
    have HG : Hid (gk = s.size - a) := hg
    clear hr1 hg
    by_cases hlt : a < s.size
    · have hax := bget? s a hlt
      obtain ⟨x, hx⟩ : ∃ x, x = s[a] := ⟨_, rfl⟩
      rw [← hx] at hax
      have HX : Hid (x = s[a]) := hx
      have HAX : Hid (s.data.toList[a]? = some x) := hax
      clear hx hax
      have hmk : mkB (s[a].toNat : Int) = mark x := by rw [mkB_toNat, HX.out]
      have HMK : Hid (mkB (s[a].toNat : Int) = mark x) := hmk
      clear hmk
      cases hmx : mark x
      · have hb : mkB (s[a].toNat : Int) = false := by rw [HMK.out, hmx]
        have HL : Hid (cend (s.data.toList.drop a) a d = cend (s.data.toList.drop (a + 1)) (a + 1) d) := by
          have := run_other HAX.out hmx d
          rw [runLen_other HAX.out hmx] at this
          exact this
        have hx47 : ((s[a].toNat : Int) == 47) = false := by
          have := hb
          unfold mkB at this
          simp only [Bool.or_eq_false_iff] at this
          exact this.1
        have hx42 : ((s[a].toNat : Int) == 42) = false := by
          have := hb
          unfold mkB at this
          simp only [Bool.or_eq_false_iff] at this
          exact this.2
        clear hmx
        go_wp2_with (go_at_call 10; refine (isMark_any _ _).mono ?_; rintro e w' ⟨rfl, rfl⟩)
        go_roundg (s.size - (a + 1))
        case measure => have := HG.out; omega
        case rel => exact ⟨a + 1, d, rfl, rfl, by go_num, ⟨by rw [← HL.out]; exact HR.out, by rw [← HZ.out]; omega, by omega, by omega⟩, nd, rfl⟩
      · have hb : mkB (s[a].toNat : Int) = true := by rw [HMK.out, hmx]
        have hst := inRun_start HAX.out hmx
        go_upto_if 25 with (go_at_call 10; refine (isMark_any _ _).mono ?_; rintro e w' ⟨rfl, rfl⟩)
        generalize hWd : w.drewN nd = W
        have HW0 : Hid (w.drewN nd = W) := hWd
        clear hWd
        go_cut [8] (fun v wc => ∃ b : Nat, v = .int .i64 b ∧ Hid (b = a + runLen s.data.toList a) ∧ a + 1 ≤ b ∧ b ≤ s.size ∧ ∃ n, wc = W.drewN n)
        case first =>
          go_wp2
          go_loopw [8] (fun bb wr => ∃ b : Nat, bb = .int .i64 b ∧ InRun s.data.toList a b ∧ ∃ n, wr = W.drewN n) (fun bb _ => s.size - (intOf bb).toNat)
          case atStart => exact ⟨a + 1, by go_num, hst, 0, rfl⟩
          case round =>
            obtain ⟨b, rfl, hin, nd2, rfl⟩ := hrel
            generalize hVd : W.drewN nd2 = V
            have HV0 : Hid (W.drewN nd2 = V) := hVd
            clear hVd
            have hlo := hin.lo
            have hhi := hin.hi
            rw [← HZ.out] at hhi
            have hpv := bget? s (b - 1) (by omega)
            by_cases hbl : b < s.size
            · have hby := bget? s b hbl
              have hdl : decide ((b : Int) < (s.size : Int)) = true := by simp; omega
              have hb1 : (1 : Int) ≤ (b : Int) := by omega
              have hb2 : (b : Int) - 1 < (s.size : Int) := by omega
              have hb3 : (b : Int) < (s.size : Int) := by omega
              have hb4 : (0 : Int) ≤ (b : Int) := by omega
              cases hmy : mark s[b]
              · have hm : mkB (s[b].toNat : Int) = false := by rw [mkB_toNat, hmy]
                have HE : Hid (b = a + runLen s.data.toList a) := inRun_stop hin hpv hby (by rw [hmy]; simp)
                clear hpv hby hmy hin
                go_wp2
                go_quiet ((go_at_call 10; exact Calls.quiet_of_same (isMark_any _ _)))
                go_wp2
                go_meet
                case rel => exact ⟨b, rfl, HE, by omega, by omega, _, by rw [← HV0.out]; exact World.drewN_drewN _ _ _⟩
              · have hm : mkB (s[b].toNat : Int) = true := by rw [mkB_toNat, hmy]
                by_cases hyx : s[b] = s[b - 1]
                · have hne : ((s[b].toNat : Int) != (s[b - 1].toNat : Int)) = false := by rw [hyx]; simp
                  have HE : Hid (b = a + runLen s.data.toList a) := inRun_stop hin hpv hby (by rw [hyx]; simp)
                  clear hpv hby hmy hin hyx
                  go_wp2
                  go_quiet ((go_at_call 10; exact Calls.quiet_of_same (isMark_any _ _)))
                  go_wp2
                  go_meet
                  case rel => exact ⟨b, rfl, HE, by omega, by omega, _, by rw [← HV0.out]; exact World.drewN_drewN _ _ _⟩
                · have hne : ((s[b].toNat : Int) != (s[b - 1].toNat : Int)) = true := by
                    rw [bne_iff_ne]
                    intro e
                    exact hyx (UInt8.toNat_inj.1 (by omega))
                  have hnx := inRun_next hin hpv hby hmy hyx
                  clear hpv hby hmy hin hyx
                  go_wp2
                  go_quiet ((go_at_call 10; exact Calls.quiet_of_same (isMark_any _ _)))
                  go_wp2
                  go_roundw
                  case rel => exact ⟨b + 1, by go_num, hnx, _, by rw [← HV0.out]; exact World.drewN_drewN _ _ _⟩
                  case measure => simp [intOf]; omega
            · have hdl : decide ((b : Int) < (s.size : Int)) = false := by simp; omega
              have HE : Hid (b = a + runLen s.data.toList a) := inRun_end hin hpv (by rw [← HZ.out]; omega)
              clear hpv hin
              go_wp2
              go_quiet ((go_at_call 10; exact Calls.quiet_of_same (isMark_any _ _)))
              go_wp2
              go_meet
              case rel => exact ⟨b, rfl, HE, by omega, by omega, _, by rw [← HV0.out]; exact World.drewN_drewN _ _ _⟩
        case rest =>
          obtain ⟨b, rfl, HE, hb1, hb2, nd3, rfl⟩ := hcut
          have hrl : runLen s.data.toList a = b - a := by have := HE.out; omega
          have hpq : (((b - a) / 2 : Nat) : Int) = ((b : Int) - (a : Int)) / 2 := by omega
          have hab : a + (b - a) = b := by omega
          rcases mark_cases hmx with h47 | h42
          · have hx47 : ((s[a].toNat : Int) == 47) = true := by rw [← HX.out, h47]; rfl
            have hst' := run_slash (by rw [HAX.out, h47]) d
            rw [hrl, hab, hpq] at hst'
            have HS : Hid (cend (s.data.toList.drop a) a d = cend (s.data.toList.drop b) b (d + ((b : Int) - (a : Int)) / 2)) := hst'
            clear hst' hrl hpq hab h47 hmx hst
            go_wp2
            go_roundg (s.size - b)
            case measure => have := HG.out; omega
            case rel => exact ⟨b, d + ((b : Int) - (a : Int)) / 2, rfl, by go_num, rfl, ⟨by rw [← HS.out]; exact HR.out, by rw [← HZ.out]; omega, by omega, by omega⟩, _, by rw [← HW0.out]; exact World.drewN_drewN _ _ _⟩
          · have hx47 : ((s[a].toNat : Int) == 47) = false := by rw [← HX.out, h42]; rfl
            have hx42 : ((s[a].toNat : Int) == 42) = true := by rw [← HX.out, h42]; rfl
            have hst' := run_star (by rw [HAX.out, h42]) d
            rw [hrl, hab, hpq] at hst'
            by_cases hc : 1 ≤ d ∧ d ≤ ((b : Int) - (a : Int)) / 2
            · rw [if_pos hc] at hst'
              have hfin : ce s.data.toList i = a + 2 * d.toNat := by
                unfold ce
                rw [← HR.out, hst']
                rfl
              have HF : Hid (ce s.data.toList i = a + 2 * d.toNat) := hfin
              obtain ⟨hc1, hc2⟩ := hc
              have hd1 : decide (1 ≤ d) = true := by simp; omega
              have hd2 : decide (d ≤ ((b : Int) - (a : Int)) / 2) = true := by simp; omega
              clear hst' hrl hpq hab h42 hmx hst hfin
              go_wp2
              go_ret
              exact ⟨ret_int (by rw [HF.out]; omega), _, by rw [← HW0.out]; exact World.drewN_drewN _ _ _⟩
            · rw [if_neg hc] at hst'
              have HS : Hid (cend (s.data.toList.drop a) a d = cend (s.data.toList.drop b) b (d - ((b : Int) - (a : Int)) / 2)) := hst'
              clear hst' hrl hpq hab h42 hmx hst
              by_cases hc1 : 1 ≤ d
              · have hd1 : decide (1 ≤ d) = true := by simp; omega
                have hd2 : decide (d ≤ ((b : Int) - (a : Int)) / 2) = false := by simp; omega
                clear hc
                go_wp2
                go_roundg (s.size - b)
                case measure => have := HG.out; omega
                case rel => exact ⟨b, d - ((b : Int) - (a : Int)) / 2, rfl, by go_num, rfl, ⟨by rw [← HS.out]; exact HR.out, by rw [← HZ.out]; omega, by omega, by omega⟩, _, by rw [← HW0.out]; exact World.drewN_drewN _ _ _⟩
              · have hd1 : decide (1 ≤ d) = false := by simp; omega
                clear hc
                go_wp2
                go_roundg (s.size - b)
                case measure => have := HG.out; omega
                case rel => exact ⟨b, d - ((b : Int) - (a : Int)) / 2, rfl, by go_num, rfl, ⟨by rw [← HS.out]; exact HR.out, by rw [← HZ.out]; omega, by omega, by omega⟩, _, by rw [← HW0.out]; exact World.drewN_drewN _ _ _⟩
    · have hae : a = s.size := by omega
      have hfin : ce s.data.toList i = s.size := by
        unfold ce
        rw [← HR.out, List.drop_of_length_le (by rw [← HZ.out]; omega), HZ.out]
        rfl
      have HF : Hid (ce s.data.toList i = s.size) := hfin
      clear hfin hae
      go_wp2
      go_ret
      exact ⟨ret_int (by rw [HF.out]), nd, rfl⟩
end Go.Proofs.Qxb6630220a
