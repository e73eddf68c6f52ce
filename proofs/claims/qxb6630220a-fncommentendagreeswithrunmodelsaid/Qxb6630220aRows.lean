/-
  No cell of these rows narrows 'for every input' (looked for: loops, veiled, ifaces, maps, wideKeys, modest, calm, conditions, laid).
  DERIVED. THE GIVEN ROWS OF THIS SEAT. 2 by the template 'for every input the law returns true; each argument reads behind the call as it read before'; 0 by the template 'total and deterministic' (their statements: Qxb6630220aTotals.lean).
  GIVEN WITH THE SEED: the statements are not yours to turn. If you find one false, say at which input.
  Laid BY PROGRAM, IN A SANDBOX (cutbox-rows.mjs): the forced cells as the released guide's own fill.sh prints them over the translation 38ed65065f26a339… (all of the seat's roots in one cut). By AI agents, Wed Nov 11 2026. No macro, syntax, notation, axiom, sorry.
-/
import Derived.Test.Qxb6630220aChecked
import GoSem.Claim
import GoSem.ClaimJoined
import GoSem.ClaimMapViews
import Derived.JoinedTies
import Derived.KernelRfl
namespace Go.Proofs.Qxb6630220a
/- THE CELL 'sum', in the pinned program and in every row, IS THE sha256 OF THE DUMP (.gsa) THAT Qxb6630220aProg.lean LOADS. Nothing in Lean hashes anything: it is a label: what it is worth is what the hold of that sum in a sandbox is worth. -/
noncomputable def Try.pinned : Pinned := { name := "qxb6630220a", sum := "38ed65065f26a3396ada79138aa76dba1fb4506c95ad80bb24167f00d9dac69f", checked := Try.checked }
namespace Rows
def none {H : Type} : Left H := { results := [], args := [] }

/-- 'zzlaws_root_b1.FnCommentEndAgreesWithRunModel': WHATEVER THE INPUT: true; the input reads as it did. -/
def fnCommentEndAgreesWithRunModelSpec : ChangeSpec := { name := "fnCommentEndAgreesWithRunModel", fn := fun _ => fun
  | [d1, d2] => { results := [.lit (.bool true)], args := [d1, d2] }
  | _ => none }
def fnCommentEndAgreesWithRunModelRow : OpenClaim := { program := "qxb6630220a", sum := "38ed65065f26a3396ada79138aa76dba1fb4506c95ad80bb24167f00d9dac69f", func := "example.com/anderston/anderston/zzlaws_root_b1.FnCommentEndAgreesWithRunModel", spec := "fnCommentEndAgreesWithRunModel", apart := false }
def FnCommentEndAgreesWithRunModelSaid : Prop := fnCommentEndAgreesWithRunModelRow.holds Try.pinned (OpenSpec.ofChange fnCommentEndAgreesWithRunModelSpec)

/-- ITS FALSE NEIGHBOUR: 'it returns false'. Refute it at one input. -/
def fnCommentEndAgreesWithRunModelWrong : ChangeSpec := { name := "fnCommentEndAgreesWithRunModel", fn := fun _ => fun
  | [d1, d2] => { results := [.lit (.bool false)], args := [d1, d2] }
  | _ => none }
def FnCommentEndAgreesWithRunModelWrongFalsely : Prop := fnCommentEndAgreesWithRunModelRow.holds Try.pinned (OpenSpec.ofChange fnCommentEndAgreesWithRunModelWrong)

/-- 'zzlaws_root_b1.FnCommentEndIgnoresWhatLiesAround': WHATEVER THE INPUT: true; the input reads as it did. -/
def fnCommentEndIgnoresWhatLiesAroundSpec : ChangeSpec := { name := "fnCommentEndIgnoresWhatLiesAround", fn := fun _ => fun
  | [d1, d2, d3, d4] => { results := [.lit (.bool true)], args := [d1, d2, d3, d4] }
  | _ => none }
def fnCommentEndIgnoresWhatLiesAroundRow : OpenClaim := { program := "qxb6630220a", sum := "38ed65065f26a3396ada79138aa76dba1fb4506c95ad80bb24167f00d9dac69f", func := "example.com/anderston/anderston/zzlaws_root_b1.FnCommentEndIgnoresWhatLiesAround", spec := "fnCommentEndIgnoresWhatLiesAround", apart := false }
def FnCommentEndIgnoresWhatLiesAroundSaid : Prop := fnCommentEndIgnoresWhatLiesAroundRow.holds Try.pinned (OpenSpec.ofChange fnCommentEndIgnoresWhatLiesAroundSpec)

/-- ITS FALSE NEIGHBOUR: 'it returns false'. Refute it at one input. -/
def fnCommentEndIgnoresWhatLiesAroundWrong : ChangeSpec := { name := "fnCommentEndIgnoresWhatLiesAround", fn := fun _ => fun
  | [d1, d2, d3, d4] => { results := [.lit (.bool false)], args := [d1, d2, d3, d4] }
  | _ => none }
def FnCommentEndIgnoresWhatLiesAroundWrongFalsely : Prop := fnCommentEndIgnoresWhatLiesAroundRow.holds Try.pinned (OpenSpec.ofChange fnCommentEndIgnoresWhatLiesAroundWrong)

end Rows
end Go.Proofs.Qxb6630220a
