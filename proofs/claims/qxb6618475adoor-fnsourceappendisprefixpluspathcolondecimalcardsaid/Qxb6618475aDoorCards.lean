/-
  DERIVED. GIVEN WITH THE SEED: THE CARDS: each row of Qxb6618475aDoorRows.lean that lists a variable, with what it lists TIED to the program's text (the seventh form; the later family's looks); each row that meets fmt, with fmt's text TOLD by the authors' own Lean function (tested against real Go, not proved from fmt's source: count such statements apart). THE CARD IS WHAT COUNTS. Prove the row's statement (the work); the ties are given (Qxb6618475aDoorTie.lean); close each card by the builder's one call (the guide's Derived/Test/ToyasCard.lean, 'card_holds'). Laid BY PROGRAM, IN A SANDBOX (cutbox-door.mjs). By AI agents, Wed Nov 11 2026. No macro, syntax, notation, axiom, sorry.
-/
import Derived.Test.Qxb6618475aDoorRows
import GoSem.ClaimSeven
namespace Go.Proofs.Qxb6618475aDoor
namespace Rows

/-- THE TIED CARD OF 'zzlaws_internal_csvfile_b1.FnSourceAppendIsPrefixPlusPathColonDecimal'. -/
def fnSourceAppendIsPrefixPlusPathColonDecimalCard : Claim7 := { stood := { row := fnSourceAppendIsPrefixPlusPathColonDecimalRow, standIns := [], harness := (true, "d671086c305a5ca464b525dad86c8f012f82ef9c9c68e98b67015cae51bcf1fa"), looks := false }, kinds := [], alts := [], laidByText := true, laidKinds := [.data, .data, .data], laidTests := true, laidLooks := .later }
def FnSourceAppendIsPrefixPlusPathColonDecimalCardSaid : Prop := Claim7.holds Tryd.pinned (.plain (OpenSpec.ofChange fnSourceAppendIsPrefixPlusPathColonDecimalSpec)) fnSourceAppendIsPrefixPlusPathColonDecimalCard
end Rows
end Go.Proofs.Qxb6618475aDoor
