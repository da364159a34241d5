import Derived.Test.Qxb6617004aSearch
namespace Go.Proofs.Qxb6617004a
open Go.ChangeShapes Go.WideShapes Go.ChangeAt Go.RowKit
set_option linter.unusedVariables false

theorem isNaN15 (x : ByteArray) (w : World) : Calls Try.prog 15 #[.string x] w fun e w' => e = .returned (.bool false) ∧ w' = w := by
  go_enter Try.func15, Try.ntmps15
  go_wp2
  go_ret
  exact ⟨by simp, rfl⟩
theorem isNaN16 (x : ByteArray) (w : World) : Calls Try.prog 16 #[.string x] w fun e w' => e = .returned (.bool false) ∧ w' = w := by
  go_enter Try.func16, Try.ntmps16
  go_wp2
  go_ret
  exact ⟨by simp, rfl⟩
theorem less_any (x y : ByteArray) (w : World) : Calls Try.prog 14 #[.string x, .string y] w fun e w' => e = .returned (.bool (Op.bytesLess x.toList y.toList)) ∧ w' = w := by
  go_enter Try.func14, Try.ntmps14
  go_wp2_with (go_at_call 16; refine (isNaN16 _ _).mono ?_; rintro e w' ⟨rfl, rfl⟩)
  go_ret
  exact ⟨rfl, rfl⟩

/-- all strings before lo are below x, none from hi on is -/
def split (ss : List ByteArray) (x : ByteArray) (lo hi : Nat) : Prop :=
  (∀ t, t < lo → ∀ h : t < ss.length, Op.bytesLess (ss[t]).toList x.toList = true) ∧ (∀ t, hi ≤ t → ∀ h : t < ss.length, Op.bytesLess (ss[t]).toList x.toList = false)

theorem split_up {ss : List ByteArray} {x : ByteArray} {lo hi m : Nat} (hs : Srt ss) (h : split ss x lo hi) (hm : m < ss.length) {y : ByteArray} (hy : ss[m] = y) (he : Op.bytesLess y.toList x.toList = true) : split ss x (m + 1) hi := by
  refine ⟨fun t ht h' => ?_, h.2⟩
  have := hs.at (i := t) (j := m) (by omega) hm
  rw [hy] at this
  exact bl_le_lt _ _ _ this he
theorem split_down {ss : List ByteArray} {x : ByteArray} {lo hi m : Nat} (hs : Srt ss) (h : split ss x lo hi) (hm : m < ss.length) {y : ByteArray} (hy : ss[m] = y) (he : Op.bytesLess y.toList x.toList = false) : split ss x lo m := by
  refine ⟨h.1, fun t ht h' => ?_⟩
  have := hs.at (i := m) (j := t) ht h'
  rw [hy] at this
  cases e : Op.bytesLess (ss[t]).toList x.toList with
  | false => rfl
  | true => have := bl_le_lt _ _ _ this e; rw [he] at this; cases this

def binRes (ss : List ByteArray) (x : ByteArray) (e : Ending) : Prop := ∃ i : Int, e = .returned (.tuple #[.int .i64 i, .bool (hasB ss x)])
theorem binRes_mk {ss : List ByteArray} {x : ByteArray} {i : Int} {r : Bool} (h : r = hasB ss x) : binRes ss x (.returned (.tuple #[.int .i64 i, .bool r])) := ⟨i, by rw [h]⟩

set_option maxHeartbeats 1000000 in
theorem bin_any (a : Option Addr) (cap : Nat) (ss : List ByteArray) (x : ByteArray) (w : World) (hs : StrsAt w a ss) (hn : ss.length ≤ 1048576) (hsr : Srt ss) :
    Calls Try.prog 13 #[.slice a ss.length cap, .string x] w fun e w' => binRes ss x e ∧ w' = w := by
  rcases hs with rfl | ⟨b, off, rfl, hc⟩
  · simp only [List.length_nil]
    go_enter Try.func13, Try.ntmps13
    go_wp2
    go_loop [7, 8] (fun i j => i = .int .i64 0 ∧ j = .int .i64 0) (fun _ _ => 0)
    case atStart => exact ⟨rfl, rfl⟩
    case round =>
      obtain ⟨rfl, rfl⟩ := hrel
      go_wp2
      go_ret2
      exact ⟨binRes_mk rfl, rfl⟩
  · obtain ⟨n, hn'⟩ : ∃ n, n = ss.length := ⟨_, rfl⟩
    rw [← hn'] at hn ⊢
    have HN : Hid (n = ss.length) := hn'
    have HS : Hid (Srt ss) := hsr
    have HC : Hid (∀ i (h : i < ss.length), w.cell? ⟨b, off + i, none⟩ = some (.string ss[i])) := hc
    clear hc hn' hsr
    go_enter Try.func13, Try.ntmps13
    go_wp2
    go_loop [7, 8] (fun i j => ∃ lo hi : Nat, lo ≤ hi ∧ hi ≤ n ∧ i = .int .i64 lo ∧ j = .int .i64 hi ∧ Hid (split ss x lo hi)) (fun i j => (intOf j).toNat - (intOf i).toNat)
    case atStart => exact ⟨0, n, Nat.zero_le _, Nat.le_refl _, rfl, rfl, fun t h => by omega, fun t h h' => by have := HN.out; omega⟩
    case round =>
      obtain ⟨lo, hi, h1, h2, rfl, rfl, HT⟩ := hrel
      by_cases hlt : lo < hi
      · have hm' : (lo + hi) / 2 < ss.length := by rw [← HN.out]; omega
        have hc := HC.out ((lo + hi) / 2) hm'
        obtain ⟨y, hy⟩ : ∃ y, ss[(lo + hi) / 2] = y := ⟨_, rfl⟩
        rw [hy] at hc
        have HY : Hid (ss[(lo + hi) / 2] = y) := hy
        clear hy
        cases c1 : Op.bytesLess y.toList x.toList
        · have HT' : Hid (split ss x lo ((lo + hi) / 2)) := split_down HS.out HT.out hm' HY.out c1
          go_wp2_with (go_at_call 14; refine (less_any _ _ _).mono ?_; rintro e w' ⟨rfl, rfl⟩)
          go_round
          case rel => exact ⟨lo, (lo + hi) / 2, by omega, by omega, rfl, by go_num, HT'⟩
          case measure => simp [intOf]; omega
        · have HT' : Hid (split ss x ((lo + hi) / 2 + 1) hi) := split_up HS.out HT.out hm' HY.out c1
          go_wp2_with (go_at_call 14; refine (less_any _ _ _).mono ?_; rintro e w' ⟨rfl, rfl⟩)
          go_round
          case rel => exact ⟨(lo + hi) / 2 + 1, hi, by omega, by omega, by go_num, rfl, HT'⟩
          case measure => simp [intOf]; omega
      · have e : lo = hi := by omega
        subst e
        clear hlt h1
        by_cases hlt : lo < n
        · have hlt' : lo < ss.length := by rw [← HN.out]; omega
          have hc := HC.out lo hlt'
          obtain ⟨y, hy⟩ : ∃ y, ss[lo] = y := ⟨_, rfl⟩
          have HF : Hid (hasB ss x = (y.toList == x.toList)) := by rw [← hy]; exact found HS.out x lo HT.out.1 HT.out.2 hlt'
          rw [hy] at hc
          clear hy
          cases c1 : (y.toList == x.toList)
          · rw [c1] at HF
            go_wp2_with (go_at_call 15; refine (isNaN15 _ _).mono ?_; rintro e w' ⟨rfl, rfl⟩)
            go_ret2
            exact ⟨binRes_mk HF.out.symm, rfl⟩
          · rw [c1] at HF
            go_wp2_with (go_at_call 15; refine (isNaN15 _ _).mono ?_; rintro e w' ⟨rfl, rfl⟩)
            go_ret2
            exact ⟨binRes_mk HF.out.symm, rfl⟩
        · have HF : Hid (hasB ss x = false) := found_none x fun t h => HT.out.1 t (by have := HN.out; omega) h
          go_wp2_with (go_at_call 15; refine (isNaN15 _ _).mono ?_; rintro e w' ⟨rfl, rfl⟩)
          go_ret2
          exact ⟨binRes_mk HF.out.symm, rfl⟩
end Go.Proofs.Qxb6617004a
