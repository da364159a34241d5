import Derived.Test.Qxb6617004aScan
namespace Go.Proofs.Qxb6617004a
open Go.ChangeShapes Go.WideShapes Go.ChangeAt Go.RowKit
set_option linter.unusedVariables false

/-! ### zzSorted -/
def srtRes (ss : List ByteArray) (e : Ending) : Prop := ∃ b : Bool, e = .returned (.bool b) ∧ (b = true → Srt ss)
/-- the first k strings are in order, neighbour by neighbour -/
def adjTo (ss : List ByteArray) (k : Nat) : Prop := ∀ t, t + 1 < k → ∀ h : t + 1 < ss.length, Op.bytesLess (ss[t + 1]).toList (ss[t]).toList = false

theorem bl_le_trans (a b c : List UInt8) (h1 : Op.bytesLess b a = false) (h2 : Op.bytesLess c b = false) : Op.bytesLess c a = false := by
  cases e : Op.bytesLess c a with
  | false => rfl
  | true => have := bl_le_lt b c a h2 e; rw [h1] at this; cases this

theorem srt_of_adj {ss : List ByteArray} {k : Nat} (h : adjTo ss k) (hk : ss.length ≤ k) : Srt ss := by
  have step : ∀ d i, ∀ hj : i + d < ss.length, Op.bytesLess (ss[i + d]).toList (ss[i]).toList = false := by
    intro d
    induction d with
    | zero => intro i hj; exact bl_irrefl _
    | succ d ih =>
      intro i hj
      have a := ih i (by omega)
      have b := h (i + d) (by omega) (by omega)
      exact bl_le_trans _ _ _ a b
  refine List.pairwise_iff_getElem.2 fun i j hi hj hij => ?_
  have e : i + (j - i) = j := by omega
  have := step (j - i) i (by omega)
  simpa only [e] using this

theorem adjTo_succ {ss : List ByteArray} {k : Nat} (h : adjTo ss k) (hk : k < ss.length) (h1 : 1 ≤ k) {x y : ByteArray} (hx : ss[k - 1]'(by omega) = x) (hy : ss[k] = y) (he : ¬ 0 < cmpB x y) : adjTo ss (k + 1) := by
  intro t ht h'
  by_cases e : t + 1 = k
  · subst e
    have : ss[t] = x := hx
    rw [hy, this]
    rw [cmpB_pos] at he
    simpa using he
  · exact h t (by omega) h'

set_option maxHeartbeats 400000 in
theorem sorted_any (a : Option Addr) (cap : Nat) (ss : List ByteArray) (w : World) (hs : StrsAt w a ss) (hn : ss.length ≤ maxLen) (hz : ∀ s ∈ ss, s.size ≤ maxLen) :
    Calls Try.prog 7 #[.slice a ss.length cap] w fun e w' => srtRes ss e ∧ ∃ n, w' = w.drewN n := by
  unfold maxLen at hn
  rcases hs with rfl | ⟨b, off, rfl, hc⟩
  · simp only [List.length_nil]
    go_enter Try.func7, Try.ntmps7
    go_wp2
    go_loop [3] (fun i => i = .int .i64 1) (fun i => 0)
    case atStart => rfl
    case round =>
      subst hrel
      go_wp2
      go_ret
      exact ⟨⟨true, rfl, fun _ => List.Pairwise.nil⟩, 0, rfl⟩
  · obtain ⟨n, hn'⟩ : ∃ n, n = ss.length := ⟨_, rfl⟩
    rw [← hn'] at hn ⊢
    have HN : Hid (n = ss.length) := hn'
    have HC : Hid (∀ i (h : i < ss.length), w.cell? ⟨b, off + i, none⟩ = some (.string ss[i])) := hc
    have HZ : Hid (∀ s ∈ ss, s.size ≤ maxLen) := hz
    clear hc hn' hz
    go_enter Try.func7, Try.ntmps7
    go_wp2
    go_loopw [3] (fun i wr => ∃ k q : Nat, 1 ≤ k ∧ (k ≤ n ∨ k = 1) ∧ i = .int .i64 k ∧ Hid (adjTo ss k) ∧ wr = w.drewN q) (fun i _ => n - (intOf i).toNat)
    case atStart => exact ⟨1, 0, Nat.le_refl _, Or.inr rfl, rfl, fun t h => by omega, rfl⟩
    case round =>
      obtain ⟨k, q, hk1, hk, rfl, HT, hwr⟩ := hrel
      have HW : Hid (wr = w.drewN q) := hwr
      clear hwr
      by_cases hlt : k < n
      · have hlt' : k < ss.length := by rw [← HN.out]; exact hlt
        have hc1 : wr.cell? ⟨b, off + k, none⟩ = some (.string ss[k]) := by rw [HW.out]; exact HC.out k hlt'
        have hc0 : wr.cell? ⟨b, off + (k - 1), none⟩ = some (.string ss[k - 1]) := by rw [HW.out]; exact HC.out (k - 1) (by omega)
        obtain ⟨y, hy⟩ : ∃ y, ss[k] = y := ⟨_, rfl⟩
        obtain ⟨x, hx⟩ : ∃ x, ss[k - 1]'(by omega) = x := ⟨_, rfl⟩
        have hzy : y.size ≤ maxLen := by rw [← hy]; exact HZ.out _ (List.getElem_mem _)
        have hzx : x.size ≤ maxLen := by rw [← hx]; exact HZ.out _ (List.getElem_mem _)
        rw [hy] at hc1
        rw [hx] at hc0
        have HY : Hid (ss[k] = y) := hy
        have HX : Hid (ss[k - 1]'(by omega) = x) := hx
        clear hy hx hk
        obtain ⟨m, rfl⟩ : ∃ m, k = m + 1 := ⟨k - 1, by omega⟩
        simp only [Nat.add_sub_cancel] at hc0
        have hb0 : (m : Int) < (n : Int) := by omega
        have hb1 : (m : Int) + 1 < (n : Int) := by omega
        have hb2 : (0 : Int) ≤ (m : Int) + 1 := by omega
        have hb3 : ((m : Int) + 1).toNat = m + 1 := by omega
        have hw0 : IntKind.i64.wrap (m : Int) = (m : Int) := by rw [IntKind.wrap_i64]; omega
        by_cases c1 : 0 < cmpB x y
        · go_wp2
          go_quiet ((go_at_call 11; exact Calls.quiet_of (cmp_any _ _ hzx hzy _)))
          go_wp2
          go_ret
          exact ⟨⟨false, rfl, fun h => by cases h⟩, _, by rw [HW.out]; exact dr2 _ _ _⟩
        · have HT' : Hid (adjTo ss (m + 1 + 1)) := adjTo_succ HT.out hlt' hk1 HX.out HY.out c1
          go_wp2
          go_quiet ((go_at_call 11; exact Calls.quiet_of (cmp_any _ _ hzx hzy _)))
          go_wp2
          go_roundw
          case rel => exact ⟨m + 1 + 1, _, by omega, by omega, by go_num, HT', by rw [HW.out]; exact dr2 _ _ _⟩
          case measure => simp [intOf]; omega
      · have HF : Hid (Srt ss) := srt_of_adj HT.out (by rw [← HN.out]; omega)
        go_wp2
        go_ret
        exact ⟨⟨true, rfl, fun _ => HF.out⟩, _, HW.out⟩
end Go.Proofs.Qxb6617004a
