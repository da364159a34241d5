/-
  No cell of these rows narrows 'for every input' (looked for: loops, veiled, ifaces, maps, wideKeys, modest, calm, conditions, laid).
  DERIVED. THE GIVEN ROWS OF THIS SEAT. 2 by the template 'for every input the law returns true; each argument reads behind the call as it read before'; 0 by the template 'total and deterministic' (their statements: Qxb6616803aTotals.lean).
  GIVEN WITH THE SEED: the statements are not yours to turn. If you find one false, say at which input.
  Laid BY PROGRAM, IN A SANDBOX (cutbox-rows.mjs): the forced cells as the released guide's own fill.sh prints them over the translation 3168c2985f609ed8… (all of the seat's roots in one cut). By AI agents, Wed Nov 11 2026. No macro, syntax, notation, axiom, sorry.
-/
import Derived.Test.Qxb6616803aChecked
import GoSem.Claim
import GoSem.ClaimJoined
import GoSem.ClaimMapViews
import Derived.JoinedTies
import Derived.KernelRfl
namespace Go.Proofs.Qxb6616803a
/- THE CELL 'sum', in the pinned program and in every row, IS THE sha256 OF THE DUMP (.gsa) THAT Qxb6616803aProg.lean LOADS. Nothing in Lean hashes anything: it is a label: what it is worth is what the hold of that sum in a sandbox is worth. -/
noncomputable def Try.pinned : Pinned := { name := "qxb6616803a", sum := "3168c2985f609ed8a886043f2d114752bab1410bb1b58def6fa2329fc469e1f5", checked := Try.checked }
namespace Rows
def none {H : Type} : Left H := { results := [], args := [] }

/-- 'zzlaws_internal_rigs_durable_b1.FnGrantStringReadsBack': WHATEVER THE INPUT: true; the input reads as it did. -/
def fnGrantStringReadsBackSpec : ChangeSpec := { name := "fnGrantStringReadsBack", fn := fun _ => fun
  | [d1, d2, d3, d4, d5, d6] => { results := [.lit (.bool true)], args := [d1, d2, d3, d4, d5, d6] }
  | _ => none }
def fnGrantStringReadsBackRow : OpenClaim := { program := "qxb6616803a", sum := "3168c2985f609ed8a886043f2d114752bab1410bb1b58def6fa2329fc469e1f5", func := "example.com/strict-grants/strict-grants/zzlaws_internal_rigs_durable_b1.FnGrantStringReadsBack", spec := "fnGrantStringReadsBack", apart := false }
def FnGrantStringReadsBackSaid : Prop := fnGrantStringReadsBackRow.holds Try.pinned (OpenSpec.ofChange fnGrantStringReadsBackSpec)

/-- ITS FALSE NEIGHBOUR: 'it returns false'. Refute it at one input. -/
def fnGrantStringReadsBackWrong : ChangeSpec := { name := "fnGrantStringReadsBack", fn := fun _ => fun
  | [d1, d2, d3, d4, d5, d6] => { results := [.lit (.bool false)], args := [d1, d2, d3, d4, d5, d6] }
  | _ => none }
def FnGrantStringReadsBackWrongFalsely : Prop := fnGrantStringReadsBackRow.holds Try.pinned (OpenSpec.ofChange fnGrantStringReadsBackWrong)

/-- 'zzlaws_internal_rigs_durable_b1.FnGrantStringGrowsAtItsEnds': WHATEVER THE INPUT: true; the input reads as it did. -/
def fnGrantStringGrowsAtItsEndsSpec : ChangeSpec := { name := "fnGrantStringGrowsAtItsEnds", fn := fun _ => fun
  | [d1, d2, d3, d4] => { results := [.lit (.bool true)], args := [d1, d2, d3, d4] }
  | _ => none }
def fnGrantStringGrowsAtItsEndsRow : OpenClaim := { program := "qxb6616803a", sum := "3168c2985f609ed8a886043f2d114752bab1410bb1b58def6fa2329fc469e1f5", func := "example.com/strict-grants/strict-grants/zzlaws_internal_rigs_durable_b1.FnGrantStringGrowsAtItsEnds", spec := "fnGrantStringGrowsAtItsEnds", apart := false }
def FnGrantStringGrowsAtItsEndsSaid : Prop := fnGrantStringGrowsAtItsEndsRow.holds Try.pinned (OpenSpec.ofChange fnGrantStringGrowsAtItsEndsSpec)

/-- ITS FALSE NEIGHBOUR: 'it returns false'. Refute it at one input. -/
def fnGrantStringGrowsAtItsEndsWrong : ChangeSpec := { name := "fnGrantStringGrowsAtItsEnds", fn := fun _ => fun
  | [d1, d2, d3, d4] => { results := [.lit (.bool false)], args := [d1, d2, d3, d4] }
  | _ => none }
def FnGrantStringGrowsAtItsEndsWrongFalsely : Prop := fnGrantStringGrowsAtItsEndsRow.holds Try.pinned (OpenSpec.ofChange fnGrantStringGrowsAtItsEndsWrong)

end Rows
end Go.Proofs.Qxb6616803a
