import Derived.Test.Qxb6617004aCounts
namespace Go.Proofs.Qxb6617004a
open Go.ChangeShapes Go.WideShapes Go.ChangeAt Go.RowKit
set_option linter.unusedVariables false

/-- a bool comes back; if it is false there are at most 65536 voters -/
def bigRes (n : Nat) (e : Ending) : Prop := ∃ b : Bool, e = .returned (.bool b) ∧ (b = false → n ≤ 65536)

set_option maxHeartbeats 1000000 in
theorem big_any (self : ByteArray) (a : Option Addr) (cap : Nat) (ss : List ByteArray) (x y : ByteArray) (w : World) (hs : StrsAt w a ss) (hn : ss.length ≤ maxLen) :
    Calls Try.prog 6 #[.string self, .slice a ss.length cap, .string x, .string y] w fun e w' => bigRes ss.length e ∧ w' = w := by
  unfold maxLen at hn
  rcases hs with rfl | ⟨b, off, rfl, hc⟩
  · simp only [List.length_nil]
    go_enter Try.func6, Try.ntmps6
    go_wp2
    all_goals first
      | (go_ret
         exact ⟨⟨_, rfl, fun _ => by omega⟩, rfl⟩)
      | (go_loop [9, 10] (fun z i => cnt 0 z i) (fun _ _ => 0)
         case atStart => exact ⟨0, _, Nat.le_refl _, rfl, rfl⟩
         case round =>
           obtain ⟨k, zn, hk, rfl, rfl⟩ := hrel
           obtain rfl : k = 0 := by omega
           go_wp2
           all_goals
             go_ret
             exact ⟨⟨_, rfl, fun _ => by omega⟩, rfl⟩)
  · obtain ⟨n, hn'⟩ : ∃ n, n = ss.length := ⟨_, rfl⟩
    rw [← hn'] at hn ⊢
    have HN : Hid (n = ss.length) := hn'
    have HC : Hid (∀ i (h : i < ss.length), w.cell? ⟨b, off + i, none⟩ = some (.string ss[i])) := hc
    clear hc hn'
    by_cases hbig : n ≤ 65536
    · go_enter Try.func6, Try.ntmps6
      go_wp2
      all_goals first
        | (go_ret
           exact ⟨⟨_, rfl, fun _ => hbig⟩, rfl⟩)
        | (go_loop [9, 10] (fun z i => cnt n z i) (fun _ i => n - (intOf i).toNat)
           case atStart => exact ⟨0, _, Nat.zero_le _, rfl, rfl⟩
           case round =>
             obtain ⟨k, zn, hk, rfl, rfl⟩ := hrel
             by_cases hlt : k < n
             · have hlt' : k < ss.length := by rw [← HN.out]; exact hlt
               have hc := HC.out k hlt'
               obtain ⟨v, hy⟩ : ∃ v, ss[k] = v := ⟨_, rfl⟩
               rw [hy] at hc
               clear hy
               go_wp2
               all_goals first
                 | (go_ret
                    exact ⟨⟨_, rfl, fun _ => hbig⟩, rfl⟩)
                 | (go_round
                    case rel => exact ⟨k + 1, _, by omega, by go_num, rfl⟩
                    case measure => simp [intOf]; omega)
             · go_wp2
               all_goals
                 go_ret
                 exact ⟨⟨_, rfl, fun _ => hbig⟩, rfl⟩)
    · go_enter Try.func6, Try.ntmps6
      go_wp2
      all_goals
        go_ret
        exact ⟨⟨true, rfl, fun h => by cases h⟩, rfl⟩
end Go.Proofs.Qxb6617004a
