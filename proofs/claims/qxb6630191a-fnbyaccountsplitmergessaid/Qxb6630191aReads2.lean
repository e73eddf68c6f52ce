import Derived.Test.Qxb6630191aLaw1
namespace Go.Proofs.Qxb6630191a
open Go.RowKit Go.Maps
set_option linter.unusedVariables false

/-- The groups lie behind a slice's address; of an empty slice nothing is asked. -/
def GLie (w : World) (ao : Option Addr) (gss : List (List Ord)) : Prop := gss = [] ∨ ∃ ab, ao = some ⟨ab, 0, none⟩ ∧ GAt w ab gss

theorem GAt.drewN {w : World} {ab : Nat} {gss : List (List Ord)} (h : GAt w ab gss) (n : Nat) : GAt (w.drewN n) ab gss := by
  intro i hi
  obtain ⟨gb, gc, hc, hat⟩ := h i hi
  exact ⟨gb, gc, by rw [World.cell?_drewN]; exact hc, hat.drewN n⟩

theorem GLie.drewN {w : World} {ao : Option Addr} {gss : List (List Ord)} (h : GLie w ao gss) (n : Nat) : GLie (w.drewN n) ao gss := by
  rcases h with h | ⟨ab, e, h⟩
  · exact .inl h
  · exact .inr ⟨ab, e, h.drewN n⟩

theorem GLie.below {w w' : World} {ao : Option Addr} {gss : List (List Ord)} (h : GLie w ao gss) (hb : Below w.heap.size w w') : GLie w' ao gss := by
  rcases h with h | ⟨ab, e, h⟩
  · exact .inl h
  · exact .inr ⟨ab, e, h.below hb⟩

/-- byAccount, whatever came in. -/
theorem zzBy_any (ao : Option Addr) (n cap : Nat) (os : List Ord) (w : World) (hn : n = os.length) (hs : os.length ≤ 4096) (hl : Lie w ao os) (hwf : ∀ o ∈ os, (Lit.int .i64 o.acc).wf = true) :
    Calls Try.prog 8 #[.slice ao n cap] w fun e w' => ∃ ao' ac', e = .returned (.slice ao' (grp os).length ac') ∧ GLie w' ao' (grp os) ∧ Below w.heap.size w w' := by
  subst hn
  rcases hl with rfl | ⟨b, off, rfl, hat⟩
  · exact (zzByAccount_empty ao cap w).mono fun e w' ⟨he, hb⟩ => ⟨none, 0, he, .inl rfl, hb⟩
  · by_cases h0 : 0 < os.length
    · exact (zzByAccount_some b off cap os w hs h0 hat hwf).mono fun e w' ⟨ab, ac, he, hg, hb⟩ => ⟨_, ac, he, .inr ⟨ab, rfl, hg⟩, hb⟩
    · have : os = [] := List.eq_nil_of_length_eq_zero (by omega)
      subst this
      exact (zzByAccount_empty _ cap w).mono fun e w' ⟨he, hb⟩ => ⟨none, 0, he, .inl rfl, hb⟩

def total (gss : List (List Ord)) : Nat := (gss.map List.length).sum

theorem total_take_succ (gss : List (List Ord)) (k : Nat) (h : k < gss.length) : total (gss.take (k + 1)) = total (gss.take k) + gss[k].length := by
  unfold total
  rw [List.take_succ_eq_append_getElem h, List.map_append, List.sum_append]
  rfl

theorem total_take_le (gss : List (List Ord)) (k : Nat) : total (gss.take k) ≤ total gss := by
  have : gss = gss.take k ++ gss.drop k := (List.take_append_drop k gss).symm
  have e : total gss = total (gss.take k) + total (gss.drop k) := by
    conv => lhs; rw [this]
    unfold total
    rw [List.map_append, List.sum_append]
  omega

set_option maxHeartbeats 400000 in
theorem countAll_any (ao : Option Addr) (ac : Nat) (gss : List (List Ord)) (w : World) (hs : gss.length ≤ 4096) (ht : total gss ≤ 4096) (hg : GLie w ao gss) :
    Calls Try.prog 12 #[.slice ao gss.length ac] w fun e w' => e = .returned (.int .i64 (total gss)) ∧ w' = w := by
  rcases hg with rfl | ⟨ab, rfl, hg⟩
  · go_enter Try.func12, Try.ntmps12
    go_wp2
    refine wp_loop_rounds 1 ?_
    rw [rounds_succ]
    go_wp2
    go_ret
    exact ⟨rfl, rfl⟩
  · go_enter Try.func12, Try.ntmps12
    go_wp2
    go_loop [3, 4] (fun m i => ∃ k : Nat, k ≤ gss.length ∧ i = .int .i64 k ∧ m = .int .i64 (total (gss.take k))) (fun _ i => gss.length - (intOf i).toNat)
    case atStart => exact ⟨0, Nat.zero_le _, rfl, rfl⟩
    case round =>
      obtain ⟨k, hk, rfl, rfl⟩ := hrel
      have hle := total_take_le gss k
      by_cases hlt : k < gss.length
      · obtain ⟨gb, gc, hc, _⟩ := hg k hlt
        have hst := total_take_succ gss k hlt
        have hle' := total_take_le gss (k + 1)
        have hb : total (gss.take k) + gss[k].length ≤ 4096 := by omega
        have HS : Hid (total (gss.take (k + 1)) = total (gss.take k) + gss[k].length) := hst
        clear hst hle'
        go_wp2
        go_round
        case rel => exact ⟨k + 1, by omega, by go_num, by rw [HS.out]; go_num⟩
        case measure => simp [intOf]; omega
      · have hke : gss.take k = gss := List.take_of_length_le (by omega)
        go_wp2
        go_ret
        exact ⟨ret_int rfl, rfl⟩

/-- What the first order of group k tells. -/
theorem grp_first {w : World} {ab : Nat} {p : List Ord} (hg : GAt w ab (grp p)) (k : Nat) (h : k < (grp p).length) :
    ∃ gb gc m, w.cell? ⟨ab, k, none⟩ = some (.slice (some ⟨gb, 0, none⟩) m gc) ∧ m = (grp p)[k].length ∧ 0 < m ∧ m ≤ p.length ∧ At w gb 0 (grp p)[k] ∧ w.cell? ⟨gb, 1, none⟩ = some (.int .i64 ((accs p)[k]'(by rw [← length_grp]; exact h))) := by
  obtain ⟨gb, gc, hc, hat⟩ := hg k h
  have hp := grp_get_pos p k h
  refine ⟨gb, gc, _, hc, rfl, hp, ?_, hat, ?_⟩
  · rw [grp_get p k h]; exact length_only_le _ _
  · have h1 := hat.c1 0 hp
    simp only [Nat.zero_mul, Nat.zero_add] at h1
    rw [h1]
    have hla : k < (accs p).length := by rw [← length_grp]; exact h
    obtain ⟨o0, l0, he0, ha0⟩ := only_head _ p (List.getElem_mem hla)
    have e : (grp p)[k][0] = o0 := by simp only [grp_get p k h, he0, List.getElem_cons_zero]
    rw [e, ha0]

set_option maxHeartbeats 800000 in
theorem groupOf_hit (ab ac : Nat) (p : List Ord) (a : Int) (j : Nat) (w : World) (hs : p.length ≤ 4096) (hg : GAt w ab (grp p)) (hj : j < (accs p).length) (ha : (accs p)[j] = a) :
    Calls Try.prog 13 #[.slice (some ⟨ab, 0, none⟩) (grp p).length ac, .int .i64 a] w fun e w' => e = .returned (.int .i64 j) ∧ w' = w := by
  have hgl := length_grp p
  have hal := length_accs_le p
  have hG : (grp p).length ≤ 4096 := by omega
  have hjG : j < (grp p).length := by omega
  have HL : Hid ((grp p).length = (accs p).length) := hgl
  clear hgl
  go_enter Try.func13, Try.ntmps13
  go_wp2
  go_loop [5] (fun i => ∃ k : Nat, k ≤ j ∧ i = .int .i64 k) (fun i => (grp p).length - (intOf i).toNat)
  case atStart => exact ⟨0, Nat.zero_le _, rfl⟩
  case round =>
    obtain ⟨k, hk, rfl⟩ := hrel
    have hlt : k < (grp p).length := by omega
    have hla : k < (accs p).length := by omega
    obtain ⟨gb, gc, m, hc, _, hm0, hm1, _, hc1⟩ := grp_first hg k hlt
    have hd : decide ((0 : Int) < (m : Int)) = true := by simp; omega
    have hi0 : (0 : Int) < (m : Int) := by omega
    by_cases hkj : k = j
    · subst hkj
      have he : ((accs p)[k] == a) = true := by simp [ha]
      go_wp2
      go_ret
      exact ⟨rfl, rfl⟩
    · have he : ((accs p)[k] == a) = false := by
        rw [beq_eq_false_iff_ne, ← ha]
        intro e
        exact hkj ((List.getElem_inj (nodup_accs p)).1 e)
      go_wp2
      go_round
      case rel => exact ⟨k + 1, by omega, by go_num⟩
      case measure => simp [intOf]; omega

set_option maxHeartbeats 800000 in
theorem groupOf_miss (ao : Option Addr) (ac : Nat) (p : List Ord) (a : Int) (w : World) (hs : p.length ≤ 4096) (hg : GLie w ao (grp p)) (ha : a ∉ accs p) :
    Calls Try.prog 13 #[.slice ao (grp p).length ac, .int .i64 a] w fun e w' => e = .returned (.int .i64 (-1)) ∧ w' = w := by
  rcases hg with h0 | ⟨ab, rfl, hg⟩
  · rw [h0]
    go_enter Try.func13, Try.ntmps13
    go_wp2
    refine wp_loop_rounds 1 ?_
    rw [rounds_succ]
    go_wp2
    go_ret
    exact ⟨rfl, rfl⟩
  · have hgl := length_grp p
    have hal := length_accs_le p
    have hG : (grp p).length ≤ 4096 := by omega
    have HL : Hid ((grp p).length = (accs p).length) := hgl
    clear hgl
    go_enter Try.func13, Try.ntmps13
    go_wp2
    go_loop [5] (fun i => ∃ k : Nat, k ≤ (grp p).length ∧ i = .int .i64 k) (fun i => (grp p).length - (intOf i).toNat)
    case atStart => exact ⟨0, Nat.zero_le _, rfl⟩
    case round =>
      obtain ⟨k, hk, rfl⟩ := hrel
      by_cases hlt : k < (grp p).length
      · have hla : k < (accs p).length := by rw [← HL.out]; exact hlt
        obtain ⟨gb, gc, m, hc, _, hm0, hm1, _, hc1⟩ := grp_first hg k hlt
        have hd : decide ((0 : Int) < (m : Int)) = true := by simp; omega
        have hi0 : (0 : Int) < (m : Int) := by omega
        have he : ((accs p)[k] == a) = false := by
          rw [beq_eq_false_iff_ne]
          intro e
          exact ha (e ▸ List.getElem_mem hla)
        go_wp2
        go_round
        case rel => exact ⟨k + 1, by omega, by go_num⟩
        case measure => simp [intOf]; omega
      · go_wp2
        go_ret
        exact ⟨rfl, rfl⟩
end Go.Proofs.Qxb6630191a
