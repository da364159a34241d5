/-
  No cell of these rows narrows 'for every input' (looked for: loops, veiled, ifaces, maps, wideKeys, modest, calm, conditions, laid).
  DERIVED. THE GIVEN ROWS OF THIS SEAT. 1 by the template 'for every input the law returns true; each argument reads behind the call as it read before'; 0 by the template 'total and deterministic' (their statements: Qxb6617004aFmtTotals.lean).
  GIVEN WITH THE SEED: the statements are not yours to turn. If you find one false, say at which input.
  Laid BY PROGRAM, IN A SANDBOX (cutbox-rows.mjs): the forced cells as the released guide's own fill.sh prints them over the translation 681f3affd9946799… (all of the seat's roots in one cut). By AI agents, Wed Nov 11 2026. No macro, syntax, notation, axiom, sorry.
-/
import Derived.Test.Qxb6617004aFmtChecked
import GoSem.Claim
import GoSem.ClaimJoined
import GoSem.ClaimMapViews
import Derived.JoinedTies
import Derived.KernelRfl
namespace Go.Proofs.Qxb6617004aFmt
/- THE CELL 'sum', in the pinned program and in every row, IS THE sha256 OF THE DUMP (.gsa) THAT Qxb6617004aFmtProg.lean LOADS. Nothing in Lean hashes anything: it is a label: what it is worth is what the hold of that sum in a sandbox is worth. -/
noncomputable def Tryf.pinned : Pinned := { name := "qxb6617004afmt", sum := "681f3affd9946799db4a8ca91b8b139d6872853dd838088e2e1af3a6cd9d7d78", checked := Tryf.checked }
namespace Rows
def none {H : Type} : Left H := { results := [], args := [] }

/-- 'zzlaws_raft_b1.FnCheckDataRefusesExactlyCallerData': WHATEVER THE INPUT: true; the input reads as it did. -/
def fnCheckDataRefusesExactlyCallerDataSpec : ChangeSpec := { name := "fnCheckDataRefusesExactlyCallerData", fn := fun _ => fun
  | [d1, d2, d3, d4, d5] => { results := [.lit (.bool true)], args := [d1, d2, d3, d4, d5] }
  | _ => none }
def fnCheckDataRefusesExactlyCallerDataRow : OpenClaim := { program := "qxb6617004afmt", sum := "681f3affd9946799db4a8ca91b8b139d6872853dd838088e2e1af3a6cd9d7d78", func := "example.com/quorate/quorate/zzlaws_raft_b1.FnCheckDataRefusesExactlyCallerData", spec := "fnCheckDataRefusesExactlyCallerData", stops := ["fmt.errorf"], inPlace := ["fmt.errorf"], unfollowed := true, recurses := true, apart := false }
/-- NO THEOREM (fmt's text is open here; it may be false): for the released tool's asking of the row's closed facts alone. THE STATEMENT IS 'FnCheckDataRefusesExactlyCallerDataToldSaid' (Qxb6617004aFmtCards.lean). -/
def FnCheckDataRefusesExactlyCallerDataFormAsk : Prop := fnCheckDataRefusesExactlyCallerDataRow.holds Tryf.pinned (OpenSpec.ofChange fnCheckDataRefusesExactlyCallerDataSpec)

/-- ITS FALSE NEIGHBOUR: 'it returns false'. Refute it at one input. -/
def fnCheckDataRefusesExactlyCallerDataWrong : ChangeSpec := { name := "fnCheckDataRefusesExactlyCallerData", fn := fun _ => fun
  | [d1, d2, d3, d4, d5] => { results := [.lit (.bool false)], args := [d1, d2, d3, d4, d5] }
  | _ => none }
def FnCheckDataRefusesExactlyCallerDataWrongFormAsk : Prop := fnCheckDataRefusesExactlyCallerDataRow.holds Tryf.pinned (OpenSpec.ofChange fnCheckDataRefusesExactlyCallerDataWrong)

end Rows
end Go.Proofs.Qxb6617004aFmt
