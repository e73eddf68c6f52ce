/-
  DERIVED. GIVEN WITH THE SEED: THE CARDS: each row of Qxb6630312aDoorRows.lean that lists a variable, with what it lists TIED to the program's text (the seventh form; the later family's looks); each row that meets fmt, with fmt's text TOLD by the authors' own Lean function (tested against real Go, not proved from fmt's source: count such statements apart). THE CARD IS WHAT COUNTS. Prove the row's statement (the work); the ties are given (Qxb6630312aDoorTie.lean); close each card by the builder's one call (the guide's Derived/Test/ToyasCard.lean, 'card_holds'). Laid BY PROGRAM, IN A SANDBOX (cutbox-door.mjs). By AI agents, Wed Nov 11 2026. No macro, syntax, notation, axiom, sorry.
-/
import Derived.Test.Qxb6630312aDoorRows
import GoSem.ClaimSeven
namespace Go.Proofs.Qxb6630312aDoor
namespace Rows

/-- THE TIED CARD OF 'zzlaws_internal_schema_b1.FnParseIDAppendDigit'. -/
def fnParseIDAppendDigitCard : Claim7 := { stood := { row := fnParseIDAppendDigitRow, standIns := [], harness := (true, "ead346e7d061bfbec06addcb6b3ebcdd0e852dc3e0bbb39e1a55e20215da75d2"), looks := true }, kinds := [], alts := [], laidByText := true, laidKinds := [.data, .data, .data, .sentinel, .sentinel], laidTests := true, laidLooks := .later }
def FnParseIDAppendDigitCardSaid : Prop := Claim7.holds Tryd.pinned (.plain (OpenSpec.ofChange fnParseIDAppendDigitSpec)) fnParseIDAppendDigitCard

/-- THE TIED CARD OF 'zzlaws_internal_schema_b1.FnParseIDOrder'. -/
def fnParseIDOrderCard : Claim7 := { stood := { row := fnParseIDOrderRow, standIns := [], harness := (true, "ead346e7d061bfbec06addcb6b3ebcdd0e852dc3e0bbb39e1a55e20215da75d2"), looks := true }, kinds := [], alts := [], laidByText := true, laidKinds := [.data, .data, .data, .sentinel, .sentinel], laidTests := true, laidLooks := .later }
def FnParseIDOrderCardSaid : Prop := Claim7.holds Tryd.pinned (.plain (OpenSpec.ofChange fnParseIDOrderSpec)) fnParseIDOrderCard
end Rows
end Go.Proofs.Qxb6630312aDoor
