import Derived.Test.Qxb6617004aPlain
import Derived.Deep.QuietTactic
import Derived.BigQuiet
namespace Go.Proofs.Qxb6617004a
open Go.ChangeShapes Go.WideShapes Go.ChangeAt Go.RowKit
set_option linter.unusedVariables false

theorem ret_int {a b : Int} (h : a = b) : Ending.returned (.int .i64 a) = .returned (.int .i64 b) := by rw [h]
theorem ret_bool {a b : Bool} (h : a = b) : Ending.returned (.bool a) = .returned (.bool b) := by rw [h]

theorem dr2 (w : World) (a b : Nat) : (w.drewN a).drewN b = w.drewN (a + b) := by simp
theorem dr3 (w : World) (a b c : Nat) : ((w.drewN a).drewN b).drewN c = w.drewN (a + b + c) := by simp [Nat.add_assoc]

set_option maxHeartbeats 400000 in
theorem cmp_any (a b : ByteArray) (ha : a.size ≤ maxLen) (hb : b.size ≤ maxLen) (w : World) :
    Calls Try.prog 11 #[.string a, .string b] w fun e w' => e = .returned (.int .i64 (cmpB a b)) ∧ ∃ n, w' = w.drewN n := by
  unfold maxLen at ha hb
  obtain ⟨m, hm1, hm2, hm3⟩ : ∃ m, m ≤ a.size ∧ m ≤ b.size ∧ (m = a.size ∨ m = b.size) := ⟨min a.size b.size, by omega, by omega, by omega⟩
  by_cases hba : b.size < a.size
  all_goals
    go_enter Try.func11, Try.ntmps11
    go_wp2
    go_loopw [6] (fun i wr => ∃ k q : Nat, k ≤ m ∧ i = .int .i64 k ∧ Hid (pre a b k) ∧ wr = w.drewN q) (fun i _ => m - (intOf i).toNat)
    case atStart => exact ⟨0, 0, Nat.zero_le _, rfl, pre_zero a b, rfl⟩
    case round =>
      obtain ⟨k, q, hk, rfl, HP, rfl⟩ := hrel
      by_cases hlt : k < m
      · have h1 : k < a.size := by omega
        have h2 : k < b.size := by omega
        by_cases c1 : (a[k].toNat : Int) = (b[k].toNat : Int)
        · have hn : ((a[k].toNat : Int) != (b[k].toNat : Int)) = false := by rw [bne_eq_false_iff_eq]; exact c1
          have HN := pre_succ a b k h1 h2 HP.out c1
          have HN' : Hid (pre a b (k + 1)) := HN
          clear HN c1
          go_wp2
          go_quiet (fail)
          go_wp2
          go_roundw
          case rel => exact ⟨k + 1, _, by omega, by go_num, HN', rfl⟩
          case measure => simp [intOf]; omega
        · have hn : ((a[k].toNat : Int) != (b[k].toNat : Int)) = true := by rw [bne_iff_ne]; exact c1
          by_cases c2 : (a[k].toNat : Int) < (b[k].toNat : Int)
          · have HF : Hid (cmpB a b = -1) := cmp_lt a b k h1 h2 HP.out c2
            clear c1
            go_wp2
            go_quiet (fail)
            go_wp2
            go_quiet (fail)
            go_wp2
            go_ret
            exact ⟨ret_int HF.out.symm, _, dr3 _ _ _ _⟩
          · have HF : Hid (cmpB a b = 1) := cmp_gt a b k h1 h2 HP.out (by omega)
            clear c1
            go_wp2
            go_quiet (fail)
            go_wp2
            go_quiet (fail)
            go_wp2
            go_ret
            exact ⟨ret_int HF.out.symm, _, dr3 _ _ _ _⟩
      · have e : k = m := by omega
        subst e
        by_cases c1 : a.size < b.size
        · have HF : Hid (cmpB a b = -1) := cmp_short a b k HP.out (by omega) (by omega)
          go_wp2
          all_goals
            go_ret
            exact ⟨ret_int HF.out.symm, _, rfl⟩
        · by_cases c2 : b.size < a.size
          · have HF : Hid (cmpB a b = 1) := cmp_long a b k HP.out (by omega) (by omega)
            go_wp2
            all_goals
              go_ret
              exact ⟨ret_int HF.out.symm, _, rfl⟩
          · have HF : Hid (cmpB a b = 0) := cmp_same a b k HP.out (by omega) (by omega)
            go_wp2
            all_goals
              go_ret
              exact ⟨ret_int HF.out.symm, _, rfl⟩
end Go.Proofs.Qxb6617004a
