/-
  No cell of these rows narrows 'for every input' (looked for: loops, veiled, ifaces, maps, wideKeys, modest, calm, conditions, laid).
  DERIVED. THE GIVEN ROWS OF THIS SEAT. 2 by the template 'for every input the law returns true; each argument reads behind the call as it read before'; 0 by the template 'total and deterministic' (their statements: Qxb6630265aTotals.lean).
  GIVEN WITH THE SEED: the statements are not yours to turn. If you find one false, say at which input.
  Laid BY PROGRAM, IN A SANDBOX (cutbox-rows.mjs): the forced cells as the released guide's own fill.sh prints them over the translation b1a62cdcf03d5d87… (all of the seat's roots in one cut). By AI agents, Wed Nov 11 2026. No macro, syntax, notation, axiom, sorry.
-/
import Derived.Test.Qxb6630265aChecked
import GoSem.Claim
import GoSem.ClaimJoined
import GoSem.ClaimMapViews
import Derived.JoinedTies
import Derived.KernelRfl
namespace Go.Proofs.Qxb6630265a
/- THE CELL 'sum', in the pinned program and in every row, IS THE sha256 OF THE DUMP (.gsa) THAT Qxb6630265aProg.lean LOADS. Nothing in Lean hashes anything: it is a label: what it is worth is what the hold of that sum in a sandbox is worth. -/
noncomputable def Try.pinned : Pinned := { name := "qxb6630265a", sum := "b1a62cdcf03d5d878e7cee0fd8378cc869e35d33d63b9e87891935a88fea6c7b", checked := Try.checked }
namespace Rows
def none {H : Type} : Left H := { results := [], args := [] }

/-- 'zzlaws_internal_wire_b1.FnAppendAnswerDecodesBack': WHATEVER THE INPUT: true; the input reads as it did. -/
def fnAppendAnswerDecodesBackSpec : ChangeSpec := { name := "fnAppendAnswerDecodesBack", fn := fun _ => fun
  | [d1, d2, d3, d4, d5, d6] => { results := [.lit (.bool true)], args := [d1, d2, d3, d4, d5, d6] }
  | _ => none }
def fnAppendAnswerDecodesBackRow : OpenClaim := { program := "qxb6630265a", sum := "b1a62cdcf03d5d878e7cee0fd8378cc869e35d33d63b9e87891935a88fea6c7b", func := "example.com/latticework/latticework/zzlaws_internal_wire_b1.FnAppendAnswerDecodesBack", spec := "fnAppendAnswerDecodesBack", named := ["encoding/binary.BigEndian"], apart := false }
def FnAppendAnswerDecodesBackSaid : Prop := fnAppendAnswerDecodesBackRow.holds Try.pinned (OpenSpec.ofChange fnAppendAnswerDecodesBackSpec)

/-- ITS FALSE NEIGHBOUR: 'it returns false'. Refute it at one input. -/
def fnAppendAnswerDecodesBackWrong : ChangeSpec := { name := "fnAppendAnswerDecodesBack", fn := fun _ => fun
  | [d1, d2, d3, d4, d5, d6] => { results := [.lit (.bool false)], args := [d1, d2, d3, d4, d5, d6] }
  | _ => none }
def FnAppendAnswerDecodesBackWrongFalsely : Prop := fnAppendAnswerDecodesBackRow.holds Try.pinned (OpenSpec.ofChange fnAppendAnswerDecodesBackWrong)

/-- 'zzlaws_internal_wire_b1.FnAppendAnswerAnyPrefixOneSize': WHATEVER THE INPUT: true; the input reads as it did. -/
def fnAppendAnswerAnyPrefixOneSizeSpec : ChangeSpec := { name := "fnAppendAnswerAnyPrefixOneSize", fn := fun _ => fun
  | [d1, d2, d3, d4, d5, d6] => { results := [.lit (.bool true)], args := [d1, d2, d3, d4, d5, d6] }
  | _ => none }
def fnAppendAnswerAnyPrefixOneSizeRow : OpenClaim := { program := "qxb6630265a", sum := "b1a62cdcf03d5d878e7cee0fd8378cc869e35d33d63b9e87891935a88fea6c7b", func := "example.com/latticework/latticework/zzlaws_internal_wire_b1.FnAppendAnswerAnyPrefixOneSize", spec := "fnAppendAnswerAnyPrefixOneSize", named := ["encoding/binary.BigEndian"], apart := false }
def FnAppendAnswerAnyPrefixOneSizeSaid : Prop := fnAppendAnswerAnyPrefixOneSizeRow.holds Try.pinned (OpenSpec.ofChange fnAppendAnswerAnyPrefixOneSizeSpec)

/-- ITS FALSE NEIGHBOUR: 'it returns false'. Refute it at one input. -/
def fnAppendAnswerAnyPrefixOneSizeWrong : ChangeSpec := { name := "fnAppendAnswerAnyPrefixOneSize", fn := fun _ => fun
  | [d1, d2, d3, d4, d5, d6] => { results := [.lit (.bool false)], args := [d1, d2, d3, d4, d5, d6] }
  | _ => none }
def FnAppendAnswerAnyPrefixOneSizeWrongFalsely : Prop := fnAppendAnswerAnyPrefixOneSizeRow.holds Try.pinned (OpenSpec.ofChange fnAppendAnswerAnyPrefixOneSizeWrong)

end Rows
end Go.Proofs.Qxb6630265a
