import Derived.Test.Qxb6630191aReads2
namespace Go.Proofs.Qxb6630191a
open Go.RowKit Go.Maps
set_option linter.unusedVariables false

/-- The six cells of one order. -/
structure Cell6 (w : World) (b off : Nat) (o : Ord) : Prop where
  c0 : w.cell? ⟨b, off, none⟩ = some (.int .i64 o.id)
  c1 : w.cell? ⟨b, off + 1, none⟩ = some (.int .i64 o.acc)
  c2 : w.cell? ⟨b, off + 2, none⟩ = some (.string o.bank)
  c3 : w.cell? ⟨b, off + 3, none⟩ = some (.string o.accTo)
  c4 : w.cell? ⟨b, off + 4, none⟩ = some (.int .i64 o.amt)
  c5 : w.cell? ⟨b, off + 5, none⟩ = some (.string o.ks)

theorem At.one {w : World} {b off : Nat} {os : List Ord} (h : At w b off os) (i : Nat) (o : Ord) (ho : os[i]? = some o) : Cell6 w b (off + i * 6) o := by
  have hi : i < os.length := by
    rcases Nat.lt_or_ge i os.length with e | e
    · exact e
    · rw [List.getElem?_eq_none e] at ho; cases ho
  have e : os[i] = o := by rw [List.getElem?_eq_getElem hi] at ho; simpa using ho
  subst e
  exact ⟨h.c0 i hi, h.c1 i hi, h.c2 i hi, h.c3 i hi, h.c4 i hi, h.c5 i hi⟩

set_option maxHeartbeats 800000 in
theorem sameGroup_any (ab ao na ac bb bo bc : Nat) (A : List Ord) (w : World) (hna : na = A.length) (hs : na ≤ 4096) (hA : At w ab ao A) (hB : At w bb bo A) :
    Calls Try.prog 15 #[.slice (some ⟨ab, ao, none⟩) na ac, .slice (some ⟨bb, bo, none⟩) na bc] w fun e w' => e = .returned (.bool true) ∧ ∃ n, w' = w.drewN n := by
  have HN : Hid (na = A.length) := hna
  clear hna
  go_enter Try.func15, Try.ntmps15
  go_wp2
  go_loopw [5] (fun i wr => ∃ k : Nat, k ≤ na ∧ i = .int .i64 k ∧ ∃ n, wr = w.drewN n) (fun i _ => na - (intOf i).toNat)
  case atStart => exact ⟨0, Nat.zero_le _, rfl, 0, rfl⟩
  case round =>
    obtain ⟨k, hk, rfl, nd, rfl⟩ := hrel
    by_cases hlt : k < na
    · obtain ⟨o, ho⟩ : ∃ o, A[k]? = some o := ⟨A[k]'(by rw [← HN.out]; exact hlt), List.getElem?_eq_getElem _⟩
      obtain ⟨a0, a1, a2, a3, a4, a5⟩ := hA.one k o ho
      obtain ⟨b0, b1, b2, b3, b4, b5⟩ := hB.one k o ho
      clear ho
      go_wp2
      go_quiet (fail)
      go_wp2
      go_roundw
      case rel => exact ⟨k + 1, by omega, by go_num, _, rfl⟩
      case measure => simp [intOf]; omega
    · go_wp2
      go_ret
      exact ⟨rfl, nd, rfl⟩

set_option maxHeartbeats 1600000 in
theorem isConcat_hit (wb wo nw wc ab ao na ac rb rn rc rgb rgo nr rgc j : Nat) (A R : List Ord) (w : World) (hnw : nw = na + nr) (hna : na = A.length) (hnr : nr = R.length) (hsz : nw ≤ 4096) (hrn : rn ≤ 4096) (hj : j < rn)
    (hW : At w wb wo (A ++ R)) (hA : At w ab ao A) (hcr : w.cell? ⟨rb, j, none⟩ = some (.slice (some ⟨rgb, rgo, none⟩) nr rgc)) (hR : At w rgb rgo R) :
    Calls Try.prog 14 #[.slice (some ⟨wb, wo, none⟩) nw wc, .slice (some ⟨ab, ao, none⟩) na ac, .slice (some ⟨rb, 0, none⟩) rn rc, .int .i64 j] w fun e w' => e = .returned (.bool true) ∧ ∃ n, w' = w.drewN n := by
  have HN : Hid (nw = na + nr ∧ na = A.length ∧ nr = R.length) := ⟨hnw, hna, hnr⟩
  have hne : ((nw : Int) != (na : Int) + (nr : Int)) = false := by simp; omega
  have h1 : na ≤ nw := by omega
  have h2 : na + nr ≤ nw := by omega
  have h3 : na + nr ≤ 4096 := by omega
  clear hnw hna hnr
  have hjge : decide ((0 : Int) ≤ (j : Int)) = true := by simp
  go_enter Try.func14, Try.ntmps14
  go_wp2
  go_loopw [10] (fun i wr => ∃ k : Nat, k ≤ na ∧ i = .int .i64 k ∧ ∃ n, wr = w.drewN n) (fun i _ => na - (intOf i).toNat)
  case atStart => exact ⟨0, Nat.zero_le _, rfl, 0, rfl⟩
  case round =>
    obtain ⟨k, hk, rfl, nd, rfl⟩ := hrel
    by_cases hlt : k < na
    · obtain ⟨o, ho⟩ : ∃ o, A[k]? = some o := ⟨A[k]'(by rw [← HN.out.2.1]; exact hlt), List.getElem?_eq_getElem _⟩
      have ho' : (A ++ R)[k]? = some o := by rw [List.getElem?_append_left (by rw [← HN.out.2.1]; exact hlt)]; exact ho
      obtain ⟨a0, a1, a2, a3, a4, a5⟩ := hA.one k o ho
      obtain ⟨b0, b1, b2, b3, b4, b5⟩ := hW.one k o ho'
      clear ho ho'
      have hkw : (k : Int) < (nw : Int) := by omega
      go_wp2
      go_quiet (fail)
      go_wp2
      go_roundw
      case rel => exact ⟨k + 1, by omega, by go_num, _, rfl⟩
      case measure => simp [intOf]; omega
    · go_wp2
      go_loopw [11] (fun i wr => ∃ k : Nat, k ≤ nr ∧ i = .int .i64 k ∧ ∃ n, wr = w.drewN n) (fun i _ => nr - (intOf i).toNat)
      case atStart => exact ⟨0, Nat.zero_le _, rfl, nd, rfl⟩
      case round =>
        obtain ⟨m, hm, rfl, nd', rfl⟩ := hrel
        by_cases hlt' : m < nr
        · obtain ⟨o, ho⟩ : ∃ o, R[m]? = some o := ⟨R[m]'(by rw [← HN.out.2.2]; exact hlt'), List.getElem?_eq_getElem _⟩
          have ho' : (A ++ R)[na + m]? = some o := by rw [List.getElem?_append_right (by rw [← HN.out.2.1]; omega), ← HN.out.2.1, Nat.add_sub_cancel_left]; exact ho
          obtain ⟨a0, a1, a2, a3, a4, a5⟩ := hR.one m o ho
          obtain ⟨b0, b1, b2, b3, b4, b5⟩ := hW.one (na + m) o ho'
          clear ho ho'
          have hkw : (na : Int) + (m : Int) < (nw : Int) := by omega
          have hkw0 : (0 : Int) ≤ (na : Int) + (m : Int) := by omega
          have hjr : (j : Int) < (rn : Int) := by omega
          have hmr : (m : Int) < (nr : Int) := by omega
          go_wp2
          go_quiet (fail)
          go_wp2
          go_roundw
          case rel => exact ⟨m + 1, by omega, by go_num, _, rfl⟩
          case measure => simp [intOf]; omega
        · go_wp2
          go_ret
          exact ⟨rfl, nd', rfl⟩

set_option maxHeartbeats 1600000 in
theorem isConcat_miss (wb wo wc ab ao na ac : Nat) (ro : Option Addr) (rn rc : Nat) (A : List Ord) (w : World) (hna : na = A.length) (hsz : na ≤ 4096)
    (hW : At w wb wo A) (hA : At w ab ao A) :
    Calls Try.prog 14 #[.slice (some ⟨wb, wo, none⟩) na wc, .slice (some ⟨ab, ao, none⟩) na ac, .slice ro rn rc, .int .i64 (-1)] w fun e w' => e = .returned (.bool true) ∧ ∃ n, w' = w.drewN n := by
  have HN : Hid (na = A.length) := hna
  clear hna
  go_enter Try.func14, Try.ntmps14
  go_wp2
  go_loopw [10] (fun i wr => ∃ k : Nat, k ≤ na ∧ i = .int .i64 k ∧ ∃ n, wr = w.drewN n) (fun i _ => na - (intOf i).toNat)
  case atStart => exact ⟨0, Nat.zero_le _, rfl, 0, rfl⟩
  case round =>
    obtain ⟨k, hk, rfl, nd, rfl⟩ := hrel
    by_cases hlt : k < na
    · obtain ⟨o, ho⟩ : ∃ o, A[k]? = some o := ⟨A[k]'(by rw [← HN.out]; exact hlt), List.getElem?_eq_getElem _⟩
      obtain ⟨a0, a1, a2, a3, a4, a5⟩ := hA.one k o ho
      obtain ⟨b0, b1, b2, b3, b4, b5⟩ := hW.one k o ho
      clear ho
      go_wp2
      go_quiet (fail)
      go_wp2
      go_roundw
      case rel => exact ⟨k + 1, by omega, by go_num, _, rfl⟩
      case measure => simp [intOf]; omega
    · go_wp2
      refine wp_loop_rounds 1 ?_
      rw [rounds_succ]
      go_wp2
      go_ret
      exact ⟨rfl, nd, rfl⟩
end Go.Proofs.Qxb6630191a
