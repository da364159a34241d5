/-
  DERIVED. GIVEN WITH THE SEED: THE CARDS: each row of Qxb6617004aFmtRows.lean that lists a variable, with what it lists TIED to the program's text (the seventh form; the later family's looks); each row that meets fmt, with fmt's text TOLD by the authors' own Lean function (tested against real Go, not proved from fmt's source: count such statements apart). THE CARD IS WHAT COUNTS. Prove the row's statement (the work); the ties are given (Qxb6617004aFmtTie.lean); close each card by the builder's one call (the guide's Derived/Test/ToyasCard.lean, 'card_holds'). Laid BY PROGRAM, IN A SANDBOX (cutbox-door.mjs). By AI agents, Wed Nov 11 2026. No macro, syntax, notation, axiom, sorry.
-/
import Derived.Test.Qxb6617004aFmtRows
import GoSem.ClaimSeven
namespace Go.Proofs.Qxb6617004aFmt
namespace Rows

/-- THE TOLD CARD OF 'zzlaws_raft_b1.FnCheckDataRefusesExactlyCallerData'. -/
def fnCheckDataRefusesExactlyCallerDataCard : Claim7 := { stood := { row := fnCheckDataRefusesExactlyCallerDataRow, standIns := [], harness := (true, "24dab236a46d8899cb921e63f1063c38aece413654da64d28adf9b9c1717dc46"), looks := false }, told := true, goes := false }
def FnCheckDataRefusesExactlyCallerDataToldSaid : Prop := Claim7.holds Tryf.pinned (.plain (OpenSpec.ofChange fnCheckDataRefusesExactlyCallerDataSpec)) fnCheckDataRefusesExactlyCallerDataCard
/-- ITS FALSE NEIGHBOUR. Refute it at one input. -/
def FnCheckDataRefusesExactlyCallerDataToldWrongFalsely : Prop := Claim7.holds Tryf.pinned (.plain (OpenSpec.ofChange fnCheckDataRefusesExactlyCallerDataWrong)) fnCheckDataRefusesExactlyCallerDataCard
end Rows
end Go.Proofs.Qxb6617004aFmt
