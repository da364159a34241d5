import Derived.Test.Qxb6616803aRows
import Derived.WalkKit
import Derived.WalkSpells
import Derived.WalkLawsBesides
import Derived.ProofKit
namespace Go.Proofs.Qxb6616803a
open Go.ChangeShapes Go.WideShapes Go.ChangeAt Go.RowKit
set_option linter.unusedVariables false

/-- the text of a grant -/
def grantText (r s l : ByteArray) : ByteArray := s ++ ⟨#[32]⟩ ++ l ++ ⟨#[32, 111, 110, 32]⟩ ++ r

set_option maxHeartbeats 400000 in
theorem newGrant_any (r s l : ByteArray) (w : World) :
    Calls Try.prog 7 #[.string r, .string s, .string l] w fun e w' =>
      e = .returned (.agg #[.string r, .string s, .string l]) ∧ ∃ c1 : Array Value, w' = w.alloc (.cells c1 25) := by
  go_enter Try.func7, Try.ntmps7
  go_wp2
  simp [bodyPost, results, Try.results7, go_sem]
  exact ⟨_, rfl⟩

set_option maxHeartbeats 400000 in
theorem string_any (r s l : ByteArray) (hr : r.size ≤ 131072) (hs : s.size ≤ 131072) (hl : l.size ≤ 131072) (w : World) :
    Calls Try.prog 8 #[.agg #[.string r, .string s, .string l]] w fun e w' =>
      e = .returned (.string (grantText r s l)) ∧ ∃ c1 : Array Value, w' = w.alloc (.cells c1 25) := by
  go_enter Try.func8, Try.ntmps8
  go_wp2
  go_ret
  exact ⟨rfl, _, rfl⟩

set_option maxHeartbeats 400000 in
theorem bytes4_any (r s l t : ByteArray) (hr : r.size ≤ maxLen) (hs : s.size ≤ maxLen) (hl : l.size ≤ maxLen) (ht : t.size ≤ maxLen) (w : World) :
    Calls Try.prog 10 #[.string r, .string s, .string l, .string t] w fun e w' =>
      (∃ b : Bool, e = .returned (.bool b)) ∧ w' = w := by
  unfold maxLen at *
  go_enter Try.func10, Try.ntmps10
  go_wp2
  all_goals
    go_ret
    exact ⟨⟨_, rfl⟩, rfl⟩

end Go.Proofs.Qxb6616803a
