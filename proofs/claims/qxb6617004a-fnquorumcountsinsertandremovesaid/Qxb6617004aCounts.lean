import Derived.Test.Qxb6617004aBin
namespace Go.Proofs.Qxb6617004a
open Go.ChangeShapes Go.WideShapes Go.ChangeAt Go.RowKit
set_option linter.unusedVariables false

theorem StrsAt.later {w w' : World} {a : Option Addr} {ss : List ByteArray} (hb : Below w.heap.size w w') (h : StrsAt w a ss) : StrsAt w' a ss := by
  rcases h with h | ⟨b, off, e, hc⟩
  · exact Or.inl h
  · exact Or.inr ⟨b, off, e, fun i hi => cell_later hb (hc i hi)⟩

set_option maxHeartbeats 400000 in
theorem counts_any (self : ByteArray) (a : Option Addr) (cap : Nat) (ss : List ByteArray) (x : ByteArray) (w : World) (hs : StrsAt w a ss) (hn : ss.length ≤ 1048576) (hsr : Srt ss) :
    Calls Try.prog 12 #[.agg #[.string self, .slice a ss.length cap], .string x] w fun e w' => e = .returned (.bool (hasB ss x)) ∧ Below w.heap.size w w' := by
  have hb : ∀ o, Below w.heap.size w (w.alloc o) := fun o => (Below.refl _ _).alloc (Nat.le_refl _) o
  have HB := fun o => bin_any a cap ss x (w.alloc o) (hs.later (hb o)) hn hsr
  have H : Hid (∀ o, Calls Try.prog 13 #[.slice a ss.length cap, .string x] (w.alloc o) fun e w' => binRes ss x e ∧ w' = w.alloc o) := HB
  clear HB hs hsr
  have HB' : Hid (∀ o, Below w.heap.size w (w.alloc o)) := hb
  clear hb
  go_enter Try.func12, Try.ntmps12
  go_wp2_with fail
  refine (H.out _).mono ?_
  rintro e w' ⟨⟨i, rfl⟩, rfl⟩
  go_wp2
  go_ret
  exact ⟨rfl, HB'.out _⟩

set_option maxHeartbeats 400000 in
theorem quorum_any (self : ByteArray) (a : Option Addr) (cap : Nat) (ss : List ByteArray) (x : ByteArray) (w : World) (hs : StrsAt w a ss) (hn : ss.length ≤ 1048576) (hsr : Srt ss) :
    Calls Try.prog 8 #[.string self, .slice a ss.length cap, .string x] w fun e w' => e = .returned (.bool (hasB ss x)) ∧ Below w.heap.size w w' := by
  have H : Hid (Calls Try.prog 12 #[.agg #[.string self, .slice a ss.length cap], .string x] w fun e w' => e = .returned (.bool (hasB ss x)) ∧ Below w.heap.size w w') := counts_any self a cap ss x w hs hn hsr
  clear hs hsr
  go_enter Try.func8, Try.ntmps8
  go_wp2_with fail
  refine H.out.mono ?_
  rintro e w' ⟨rfl, hb⟩
  go_wp2
  go_ret
  exact ⟨rfl, hb⟩

/-! ### the guards -/
/-- some bool comes back -/
def aBool (e : Ending) : Prop := ∃ b : Bool, e = .returned (.bool b)
/-- a counter within n, and a number -/
def cnt (n : Nat) (z i : Value) : Prop := ∃ (k : Nat) (zn : Int), k ≤ n ∧ i = .int .i64 k ∧ z = .int .i64 zn
set_option maxHeartbeats 1000000 in
theorem bytes_cut_any (self : ByteArray) (a : Option Addr) (cap : Nat) (ss : List ByteArray) (x : ByteArray) (kk : Int) (w : World) (hs : StrsAt w a ss) (hn : ss.length ≤ maxLen) :
    Calls Try.prog 5 #[.string self, .slice a ss.length cap, .string x, .int .i64 kk] w fun e w' => aBool e ∧ w' = w := by
  unfold maxLen at hn
  rcases hs with rfl | ⟨b, off, rfl, hc⟩
  · simp only [List.length_nil]
    go_enter Try.func5, Try.ntmps5
    go_wp2
    all_goals first
      | (go_ret
         exact ⟨⟨_, rfl⟩, rfl⟩)
      | (go_loop [9, 10] (fun z i => cnt 0 z i) (fun _ _ => 0)
         case atStart => exact ⟨0, _, Nat.le_refl _, rfl, rfl⟩
         case round =>
           obtain ⟨k, zn, hk, rfl, rfl⟩ := hrel
           obtain rfl : k = 0 := by omega
           go_wp2
           all_goals
             go_ret
             exact ⟨⟨_, rfl⟩, rfl⟩)
  · obtain ⟨n, hn'⟩ : ∃ n, n = ss.length := ⟨_, rfl⟩
    rw [← hn'] at hn ⊢
    have HN : Hid (n = ss.length) := hn'
    have HC : Hid (∀ i (h : i < ss.length), w.cell? ⟨b, off + i, none⟩ = some (.string ss[i])) := hc
    clear hc hn'
    go_enter Try.func5, Try.ntmps5
    go_wp2
    all_goals first
      | (go_ret
         exact ⟨⟨_, rfl⟩, rfl⟩)
      | (go_loop [9, 10] (fun z i => cnt n z i) (fun _ i => n - (intOf i).toNat)
         case atStart => exact ⟨0, _, Nat.zero_le _, rfl, rfl⟩
         case round =>
           obtain ⟨k, zn, hk, rfl, rfl⟩ := hrel
           by_cases hlt : k < n
           · have hlt' : k < ss.length := by rw [← HN.out]; exact hlt
             have hc := HC.out k hlt'
             obtain ⟨y, hy⟩ : ∃ y, ss[k] = y := ⟨_, rfl⟩
             rw [hy] at hc
             clear hy
             go_wp2
             all_goals first
               | (go_ret
                  exact ⟨⟨_, rfl⟩, rfl⟩)
               | (go_round
                  case rel => exact ⟨k + 1, _, by omega, by go_num, rfl⟩
                  case measure => simp [intOf]; omega)
           · go_wp2
             all_goals
               go_ret
               exact ⟨⟨_, rfl⟩, rfl⟩)

set_option maxHeartbeats 1000000 in
theorem bytes_ins_any (self : ByteArray) (a : Option Addr) (cap : Nat) (ss : List ByteArray) (x : ByteArray) (y : ByteArray) (w : World) (hs : StrsAt w a ss) (hn : ss.length ≤ maxLen) :
    Calls Try.prog 10 #[.string self, .slice a ss.length cap, .string x, .string y] w fun e w' => aBool e ∧ w' = w := by
  unfold maxLen at hn
  rcases hs with rfl | ⟨b, off, rfl, hc⟩
  · simp only [List.length_nil]
    go_enter Try.func10, Try.ntmps10
    go_wp2
    all_goals first
      | (go_ret
         exact ⟨⟨_, rfl⟩, rfl⟩)
      | (go_loop [9, 10] (fun z i => cnt 0 z i) (fun _ _ => 0)
         case atStart => exact ⟨0, _, Nat.le_refl _, rfl, rfl⟩
         case round =>
           obtain ⟨k, zn, hk, rfl, rfl⟩ := hrel
           obtain rfl : k = 0 := by omega
           go_wp2
           all_goals
             go_ret
             exact ⟨⟨_, rfl⟩, rfl⟩)
  · obtain ⟨n, hn'⟩ : ∃ n, n = ss.length := ⟨_, rfl⟩
    rw [← hn'] at hn ⊢
    have HN : Hid (n = ss.length) := hn'
    have HC : Hid (∀ i (h : i < ss.length), w.cell? ⟨b, off + i, none⟩ = some (.string ss[i])) := hc
    clear hc hn'
    go_enter Try.func10, Try.ntmps10
    go_wp2
    all_goals first
      | (go_ret
         exact ⟨⟨_, rfl⟩, rfl⟩)
      | (go_loop [9, 10] (fun z i => cnt n z i) (fun _ i => n - (intOf i).toNat)
         case atStart => exact ⟨0, _, Nat.zero_le _, rfl, rfl⟩
         case round =>
           obtain ⟨k, zn, hk, rfl, rfl⟩ := hrel
           by_cases hlt : k < n
           · have hlt' : k < ss.length := by rw [← HN.out]; exact hlt
             have hc := HC.out k hlt'
             obtain ⟨v, hy⟩ : ∃ v, ss[k] = v := ⟨_, rfl⟩
             rw [hy] at hc
             clear hy
             go_wp2
             all_goals first
               | (go_ret
                  exact ⟨⟨_, rfl⟩, rfl⟩)
               | (go_round
                  case rel => exact ⟨k + 1, _, by omega, by go_num, rfl⟩
                  case measure => simp [intOf]; omega)
           · go_wp2
             all_goals
               go_ret
               exact ⟨⟨_, rfl⟩, rfl⟩)
end Go.Proofs.Qxb6617004a
