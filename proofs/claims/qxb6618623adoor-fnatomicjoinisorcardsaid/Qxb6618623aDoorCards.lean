/-
  DERIVED. GIVEN WITH THE SEED: THE CARDS: each row of Qxb6618623aDoorRows.lean that lists a variable, with what it lists TIED to the program's text (the seventh form; the later family's looks); each row that meets fmt, with fmt's text TOLD by the authors' own Lean function (tested against real Go, not proved from fmt's source: count such statements apart). THE CARD IS WHAT COUNTS. Prove the row's statement (the work); the ties are given (Qxb6618623aDoorTie.lean); close each card by the builder's one call (the guide's Derived/Test/ToyasCard.lean, 'card_holds'). Laid BY PROGRAM, IN A SANDBOX (cutbox-door.mjs). By AI agents, Wed Nov 11 2026. No macro, syntax, notation, axiom, sorry.
-/
import Derived.Test.Qxb6618623aDoorRows
import GoSem.ClaimSeven
namespace Go.Proofs.Qxb6618623aDoor
namespace Rows

/-- THE TIED CARD OF 'zzlaws_cprobe_b1.FnAtomicJoinIsOr'. -/
def fnAtomicJoinIsOrCard : Claim7 := { stood := { row := fnAtomicJoinIsOrRow, standIns := [], harness := (true, "ae66c5c80d329b8966936bca90aa3aa36a9dc33512f7b1d26680f5c882898efc"), looks := false }, kinds := [], alts := [], laidByText := true, laidKinds := [.listed, .data], laidTests := true, laidLooks := .later }
def FnAtomicJoinIsOrCardSaid : Prop := Claim7.holds Tryd.pinned (.plain (OpenSpec.ofChange fnAtomicJoinIsOrSpec)) fnAtomicJoinIsOrCard
end Rows
end Go.Proofs.Qxb6618623aDoor
