/-
  DERIVED. GIVEN WITH THE SEED: THE CARDS: each row of Qxb6618422aDoorRows.lean that lists a variable, with what it lists TIED to the program's text (the seventh form; the later family's looks); each row that meets fmt, with fmt's text TOLD by the authors' own Lean function (tested against real Go, not proved from fmt's source: count such statements apart). THE CARD IS WHAT COUNTS. Prove the row's statement (the work); the ties are given (Qxb6618422aDoorTie.lean); close each card by the builder's one call (the guide's Derived/Test/ToyasCard.lean, 'card_holds'). Laid BY PROGRAM, IN A SANDBOX (cutbox-door.mjs). By AI agents, Wed Nov 11 2026. No macro, syntax, notation, axiom, sorry.
-/
import Derived.Test.Qxb6618422aDoorRows
import GoSem.ClaimSeven
namespace Go.Proofs.Qxb6618422aDoor
namespace Rows

/-- THE TIED CARD OF 'zzlaws_internal_wire_b1.FnPeerStringInjectiveAndReadable'. -/
def fnPeerStringInjectiveAndReadableCard : Claim7 := { stood := { row := fnPeerStringInjectiveAndReadableRow, standIns := [], harness := (true, "0afe48f69099f0ad0803649ff77ca596f21084620fd07896108d66c678a9c1bc"), looks := false }, kinds := [], alts := [], laidByText := true, laidKinds := [.data, .data, .data], laidTests := true, laidLooks := .later }
def FnPeerStringInjectiveAndReadableCardSaid : Prop := Claim7.holds Tryd.pinned (.plain (OpenSpec.ofChange fnPeerStringInjectiveAndReadableSpec)) fnPeerStringInjectiveAndReadableCard
end Rows
end Go.Proofs.Qxb6618422aDoor
