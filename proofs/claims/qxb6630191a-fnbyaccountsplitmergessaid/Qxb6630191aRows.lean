/-
  No cell of these rows narrows 'for every input' (looked for: loops, veiled, ifaces, maps, wideKeys, modest, calm, conditions, laid).
  DERIVED. THE GIVEN ROWS OF THIS SEAT. 2 by the template 'for every input the law returns true; each argument reads behind the call as it read before'; 0 by the template 'total and deterministic' (their statements: Qxb6630191aTotals.lean).
  GIVEN WITH THE SEED: the statements are not yours to turn. If you find one false, say at which input.
  Laid BY PROGRAM, IN A SANDBOX (cutbox-rows.mjs): the forced cells as the released guide's own fill.sh prints them over the translation 169cd87e1fd71325… (all of the seat's roots in one cut). By AI agents, Wed Nov 11 2026. No macro, syntax, notation, axiom, sorry.
-/
import Derived.Test.Qxb6630191aChecked
import GoSem.Claim
import GoSem.ClaimJoined
import GoSem.ClaimMapViews
import Derived.JoinedTies
import Derived.KernelRfl
namespace Go.Proofs.Qxb6630191a
/- THE CELL 'sum', in the pinned program and in every row, IS THE sha256 OF THE DUMP (.gsa) THAT Qxb6630191aProg.lean LOADS. Nothing in Lean hashes anything: it is a label: what it is worth is what the hold of that sum in a sandbox is worth. -/
noncomputable def Try.pinned : Pinned := { name := "qxb6630191a", sum := "169cd87e1fd713258290743ab58bf4d230ef2078699f59647cfd34ae30e078d2", checked := Try.checked }
namespace Rows
def none {H : Type} : Left H := { results := [], args := [] }

/-- 'zzlaws_internal_bench_b1.FnByAccountGroupsAreFirstSeenFilters': WHATEVER THE INPUT: true; the input reads as it did. -/
def fnByAccountGroupsAreFirstSeenFiltersSpec : ChangeSpec := { name := "fnByAccountGroupsAreFirstSeenFilters", fn := fun _ => fun
  | [d] => { results := [.lit (.bool true)], args := [d] }
  | _ => none }
def fnByAccountGroupsAreFirstSeenFiltersRow : OpenClaim := { program := "qxb6630191a", sum := "169cd87e1fd713258290743ab58bf4d230ef2078699f59647cfd34ae30e078d2", func := "example.com/amends/amends/zzlaws_internal_bench_b1.FnByAccountGroupsAreFirstSeenFilters", spec := "fnByAccountGroupsAreFirstSeenFilters", apart := false }
def FnByAccountGroupsAreFirstSeenFiltersSaid : Prop := fnByAccountGroupsAreFirstSeenFiltersRow.holds Try.pinned (OpenSpec.ofChange fnByAccountGroupsAreFirstSeenFiltersSpec)

/-- ITS FALSE NEIGHBOUR: 'it returns false'. Refute it at one input. -/
def fnByAccountGroupsAreFirstSeenFiltersWrong : ChangeSpec := { name := "fnByAccountGroupsAreFirstSeenFilters", fn := fun _ => fun
  | [d] => { results := [.lit (.bool false)], args := [d] }
  | _ => none }
def FnByAccountGroupsAreFirstSeenFiltersWrongFalsely : Prop := fnByAccountGroupsAreFirstSeenFiltersRow.holds Try.pinned (OpenSpec.ofChange fnByAccountGroupsAreFirstSeenFiltersWrong)

/-- 'zzlaws_internal_bench_b1.FnByAccountSplitMerges': WHATEVER THE INPUT: true; the input reads as it did. -/
def fnByAccountSplitMergesSpec : ChangeSpec := { name := "fnByAccountSplitMerges", fn := fun _ => fun
  | [d1, d2] => { results := [.lit (.bool true)], args := [d1, d2] }
  | _ => none }
def fnByAccountSplitMergesRow : OpenClaim := { program := "qxb6630191a", sum := "169cd87e1fd713258290743ab58bf4d230ef2078699f59647cfd34ae30e078d2", func := "example.com/amends/amends/zzlaws_internal_bench_b1.FnByAccountSplitMerges", spec := "fnByAccountSplitMerges", apart := false }
def FnByAccountSplitMergesSaid : Prop := fnByAccountSplitMergesRow.holds Try.pinned (OpenSpec.ofChange fnByAccountSplitMergesSpec)

/-- ITS FALSE NEIGHBOUR: 'it returns false'. Refute it at one input. -/
def fnByAccountSplitMergesWrong : ChangeSpec := { name := "fnByAccountSplitMerges", fn := fun _ => fun
  | [d1, d2] => { results := [.lit (.bool false)], args := [d1, d2] }
  | _ => none }
def FnByAccountSplitMergesWrongFalsely : Prop := fnByAccountSplitMergesRow.holds Try.pinned (OpenSpec.ofChange fnByAccountSplitMergesWrong)

end Rows
end Go.Proofs.Qxb6630191a
