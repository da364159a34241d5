import Derived.Test.Qxb6617004aCmp
namespace Go.Proofs.Qxb6617004a
open Go.ChangeShapes Go.WideShapes Go.ChangeAt Go.RowKit
set_option linter.unusedVariables false

/-- the strings ss lie from the address on -/
def StrsAt (w : World) (a : Option Addr) (ss : List ByteArray) : Prop :=
  ss = [] ∨ ∃ b off, a = some ⟨b, off, none⟩ ∧ ∀ i (h : i < ss.length), w.cell? ⟨b, off + i, none⟩ = some (.string ss[i])

theorem hasB_nil (x : ByteArray) : hasB [] x = false := rfl
/-- none of the first k strings is x -/
def noneTo (ss : List ByteArray) (x : ByteArray) (k : Nat) : Prop := ∀ t, t < k → ∀ h : t < ss.length, ((ss[t]).toList == x.toList) = false
theorem noneTo_succ {ss : List ByteArray} {x : ByteArray} {k : Nat} (h : noneTo ss x k) (hk : k < ss.length) {y : ByteArray} (hy : ss[k] = y) (he : (y.toList == x.toList) = false) : noneTo ss x (k + 1) := by
  intro t ht h'
  by_cases e : t = k
  · subst e; rw [hy]; exact he
  · exact h t (by omega) h'
theorem noneTo_all {ss : List ByteArray} {x : ByteArray} {k : Nat} (h : noneTo ss x k) (hk : ss.length ≤ k) : hasB ss x = false := by
  cases e : hasB ss x with
  | false => rfl
  | true =>
    obtain ⟨t, ht, e⟩ := (hasB_iff _ _).1 e
    have := h t (by omega) ht
    rw [e] at this
    simp at this
theorem hasB_at {ss : List ByteArray} {x : ByteArray} {k : Nat} (hk : k < ss.length) {y : ByteArray} (hy : ss[k] = y) (he : (y.toList == x.toList) = true) : hasB ss x = true :=
  (hasB_iff _ _).2 ⟨k, hk, by rw [hy]; simpa using he⟩

set_option maxHeartbeats 400000 in
theorem contains_any (a : Option Addr) (cap : Nat) (ss : List ByteArray) (x : ByteArray) (w : World) (hs : StrsAt w a ss) (hn : ss.length ≤ maxLen) :
    Calls Try.prog 9 #[.slice a ss.length cap, .string x] w fun e w' => e = .returned (.bool (hasB ss x)) ∧ w' = w := by
  unfold maxLen at hn
  rcases hs with rfl | ⟨b, off, rfl, hc⟩
  · rw [hasB_nil]
    simp only [List.length_nil]
    go_enter Try.func9, Try.ntmps9
    go_wp2
    go_loop [5] (fun i => i = .int .i64 0) (fun i => 0)
    case atStart => rfl
    case round =>
      subst hrel
      go_wp2
      go_ret
      exact ⟨rfl, rfl⟩
  · obtain ⟨n, hn'⟩ : ∃ n, n = ss.length := ⟨_, rfl⟩
    rw [← hn'] at hn ⊢
    have HN : Hid (n = ss.length) := hn'
    have HC : Hid (∀ i (h : i < ss.length), w.cell? ⟨b, off + i, none⟩ = some (.string ss[i])) := hc
    clear hc hn'
    obtain ⟨r, hr⟩ : ∃ r, r = hasB ss x := ⟨_, rfl⟩
    rw [← hr]
    have HR : Hid (r = hasB ss x) := hr
    clear hr
    go_enter Try.func9, Try.ntmps9
    go_wp2
    go_loop [5] (fun i => ∃ k : Nat, k ≤ n ∧ i = .int .i64 k ∧ Hid (noneTo ss x k)) (fun i => n - (intOf i).toNat)
    case atStart => exact ⟨0, Nat.zero_le _, rfl, fun t h => by omega⟩
    case round =>
      obtain ⟨k, hk, rfl, HT⟩ := hrel
      by_cases hlt : k < n
      · have hlt' : k < ss.length := by rw [← HN.out]; exact hlt
        have hc := HC.out k hlt'
        obtain ⟨y, hy⟩ : ∃ y, ss[k] = y := ⟨_, rfl⟩
        rw [hy] at hc
        have HY : Hid (ss[k] = y) := hy
        clear hy
        cases c1 : (y.toList == x.toList)
        · have HT' : Hid (noneTo ss x (k + 1)) := noneTo_succ HT.out hlt' HY.out c1
          go_wp2
          go_round
          case rel => exact ⟨k + 1, by omega, by go_num, HT'⟩
          case measure => simp [intOf]; omega
        · have HF : Hid (r = true) := HR.out.trans (hasB_at hlt' HY.out c1)
          go_wp2
          go_ret
          exact ⟨ret_bool HF.out.symm, rfl⟩
      · have HF : Hid (r = false) := HR.out.trans (noneTo_all HT.out (by rw [← HN.out]; omega))
        go_wp2
        go_ret
        exact ⟨ret_bool HF.out.symm, rfl⟩
end Go.Proofs.Qxb6617004a
