/-
  No cell of these rows narrows 'for every input' (looked for: loops, veiled, ifaces, maps, wideKeys, modest, calm, conditions, laid).
  DERIVED. THE GIVEN ROWS OF THIS SEAT. 2 by the template 'for every input the law returns true; each argument reads behind the call as it read before'; 0 by the template 'total and deterministic' (their statements: Qxb6617004aTotals.lean).
  GIVEN WITH THE SEED: the statements are not yours to turn. If you find one false, say at which input.
  Laid BY PROGRAM, IN A SANDBOX (cutbox-rows.mjs): the forced cells as the released guide's own fill.sh prints them over the translation 9d670515085779ef… (all of the seat's roots in one cut). By AI agents, Wed Nov 11 2026. No macro, syntax, notation, axiom, sorry.
-/
import Derived.Test.Qxb6617004aChecked
import GoSem.Claim
import GoSem.ClaimJoined
import GoSem.ClaimMapViews
import Derived.JoinedTies
import Derived.KernelRfl
namespace Go.Proofs.Qxb6617004a
/- THE CELL 'sum', in the pinned program and in every row, IS THE sha256 OF THE DUMP (.gsa) THAT Qxb6617004aProg.lean LOADS. Nothing in Lean hashes anything: it is a label: what it is worth is what the hold of that sum in a sandbox is worth. -/
noncomputable def Try.pinned : Pinned := { name := "qxb6617004a", sum := "9d670515085779efee81637566e6cf6ff272de3586ed4f929db5fcae657399cd", checked := Try.checked }
namespace Rows
def none {H : Type} : Left H := { results := [], args := [] }

/-- 'zzlaws_raft_b1.FnQuorumCountsIsMembershipAtEveryCut': WHATEVER THE INPUT: true; the input reads as it did. -/
def fnQuorumCountsIsMembershipAtEveryCutSpec : ChangeSpec := { name := "fnQuorumCountsIsMembershipAtEveryCut", fn := fun _ => fun
  | [d1, d2, d3, d4] => { results := [.lit (.bool true)], args := [d1, d2, d3, d4] }
  | _ => none }
def fnQuorumCountsIsMembershipAtEveryCutRow : OpenClaim := { program := "qxb6617004a", sum := "9d670515085779efee81637566e6cf6ff272de3586ed4f929db5fcae657399cd", func := "example.com/quorate/quorate/zzlaws_raft_b1.FnQuorumCountsIsMembershipAtEveryCut", spec := "fnQuorumCountsIsMembershipAtEveryCut", apart := false }
def FnQuorumCountsIsMembershipAtEveryCutSaid : Prop := fnQuorumCountsIsMembershipAtEveryCutRow.holds Try.pinned (OpenSpec.ofChange fnQuorumCountsIsMembershipAtEveryCutSpec)

/-- ITS FALSE NEIGHBOUR: 'it returns false'. Refute it at one input. -/
def fnQuorumCountsIsMembershipAtEveryCutWrong : ChangeSpec := { name := "fnQuorumCountsIsMembershipAtEveryCut", fn := fun _ => fun
  | [d1, d2, d3, d4] => { results := [.lit (.bool false)], args := [d1, d2, d3, d4] }
  | _ => none }
def FnQuorumCountsIsMembershipAtEveryCutWrongFalsely : Prop := fnQuorumCountsIsMembershipAtEveryCutRow.holds Try.pinned (OpenSpec.ofChange fnQuorumCountsIsMembershipAtEveryCutWrong)

/-- 'zzlaws_raft_b1.FnQuorumCountsInsertAndRemove': WHATEVER THE INPUT: true; the input reads as it did. -/
def fnQuorumCountsInsertAndRemoveSpec : ChangeSpec := { name := "fnQuorumCountsInsertAndRemove", fn := fun _ => fun
  | [d1, d2, d3, d4] => { results := [.lit (.bool true)], args := [d1, d2, d3, d4] }
  | _ => none }
def fnQuorumCountsInsertAndRemoveRow : OpenClaim := { program := "qxb6617004a", sum := "9d670515085779efee81637566e6cf6ff272de3586ed4f929db5fcae657399cd", func := "example.com/quorate/quorate/zzlaws_raft_b1.FnQuorumCountsInsertAndRemove", spec := "fnQuorumCountsInsertAndRemove", apart := false }
def FnQuorumCountsInsertAndRemoveSaid : Prop := fnQuorumCountsInsertAndRemoveRow.holds Try.pinned (OpenSpec.ofChange fnQuorumCountsInsertAndRemoveSpec)

/-- ITS FALSE NEIGHBOUR: 'it returns false'. Refute it at one input. -/
def fnQuorumCountsInsertAndRemoveWrong : ChangeSpec := { name := "fnQuorumCountsInsertAndRemove", fn := fun _ => fun
  | [d1, d2, d3, d4] => { results := [.lit (.bool false)], args := [d1, d2, d3, d4] }
  | _ => none }
def FnQuorumCountsInsertAndRemoveWrongFalsely : Prop := fnQuorumCountsInsertAndRemoveRow.holds Try.pinned (OpenSpec.ofChange fnQuorumCountsInsertAndRemoveWrong)

end Rows
end Go.Proofs.Qxb6617004a
