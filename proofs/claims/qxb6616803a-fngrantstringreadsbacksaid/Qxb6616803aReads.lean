import Derived.Test.Qxb6616803aText
import Derived.Deep.QuietTactic
import Derived.BigQuiet
namespace Go.Proofs.Qxb6616803a
open Go.ChangeShapes Go.WideShapes Go.ChangeAt Go.RowKit
set_option linter.unusedVariables false

def spRes (s : ByteArray) (e : Ending) : Prop := ∃ b : Bool, e = .returned (.bool b) ∧ (b = false → noSp s 0 s.size)

set_option maxHeartbeats 400000 in
theorem hasSpace_any (s : ByteArray) (hs : s.size ≤ maxLen) (w : World) :
    Calls Try.prog 6 #[.string s] w fun e w' => spRes s e ∧ w' = w := by
  unfold maxLen at hs
  go_enter Try.func6, Try.ntmps6
  go_wp2
  go_loop [3] (fun i => ∃ k : Nat, k ≤ s.size ∧ i = .int .i64 k ∧ Hid (noSp s 0 k)) (fun i => s.size - (intOf i).toNat)
  case atStart => exact ⟨0, Nat.zero_le _, rfl, fun k _ _ h => by omega⟩
  case round =>
    obtain ⟨k, hk, rfl, HR⟩ := hrel
    by_cases hlt : k < s.size
    · go_wp2
      · go_ret
        exact ⟨⟨true, rfl, by simp⟩, rfl⟩
      · go_round
        case rel => exact ⟨k + 1, by omega, by go_num, noSp_succ HR.out hlt (by assumption)⟩
        case measure => simp [intOf]; omega
    · go_wp2
      go_ret
      refine ⟨⟨false, rfl, fun _ => ?_⟩, rfl⟩
      have e : k = s.size := by omega
      subst e
      exact HR.out

set_option maxHeartbeats 400000 in
theorem readGrant_any (t : ByteArray) (i0 j0 : Nat) (hs : t.size ≤ maxLen) (hij : i0 < j0) (hj : j0 + 3 < t.size)
   (n1 : noSp t 0 i0) (n2 : noSp t (i0 + 1) j0) (e1 : ((t[i0].toNat : Int) == 32) = true) (e2 : ((t[j0].toNat : Int) == 32) = true)
   (x0 : (((t.extract (j0 + 1) t.size)[0]'(by rw [ByteArray.size_extract]; omega)).toNat : Int) = 111)
   (x1 : (((t.extract (j0 + 1) t.size)[1]'(by rw [ByteArray.size_extract]; omega)).toNat : Int) = 110)
   (x2 : (((t.extract (j0 + 1) t.size)[2]'(by rw [ByteArray.size_extract]; omega)).toNat : Int) = 32)
   (w : World) :
    Calls Try.prog 9 #[.string t] w fun e w' => e = .returned (.tuple #[.string (t.extract (j0 + 4) t.size), .string (t.extract 0 i0), .string (t.extract (i0 + 1) j0), .bool true]) ∧ ∃ n, w' = w.drewN n := by
  unfold maxLen at hs
  go_enter Try.func9, Try.ntmps9
  go_wp2
  go_loop [6] (fun i => ∃ k : Nat, k ≤ i0 ∧ i = .int .i64 k) (fun i => t.size - (intOf i).toNat)
  case atStart => exact ⟨0, Nat.zero_le _, rfl⟩
  case round =>
    obtain ⟨k, hk, rfl⟩ := hrel
    by_cases hlt : k < i0
    · have hx := n1 k (by omega) (by omega) hlt
      go_wp2
      go_round
      case rel => exact ⟨k + 1, by omega, by go_num⟩
      case measure => simp [intOf]; omega
    · have e : k = i0 := by omega
      subst e
      clear hlt hk
      go_wp2
      go_loop [7] (fun i => ∃ k' : Nat, k < k' ∧ k' ≤ j0 ∧ i = .int .i64 k') (fun i => t.size - (intOf i).toNat)
      case atStart => exact ⟨k + 1, by omega, by omega, by go_num⟩
      case round =>
        obtain ⟨m, hm, hm', rfl⟩ := hrel
        by_cases hlt : m < j0
        · have hx := n2 m (by omega) (by omega) hlt
          go_wp2
          go_round
          case rel => exact ⟨m + 1, by omega, by omega, by go_num⟩
          case measure => simp [intOf]; omega
        · have e : m = j0 := by omega
          subst e
          clear hlt hm'
          go_wp2
          go_quiet (fail)
          go_wp2
          have he : (t.extract (m + 1) t.size).extract 3 (t.size - (m + 1)) = t.extract (m + 4) t.size := by
            rw [ByteArray.extract_extract]; congr 1; omega
          refine bodyPost_ret (v := .tuple #[.string (t.extract (m + 4) t.size), .string (t.extract 0 k), .string (t.extract (k + 1) m), .bool true]) ?_ rfl ⟨rfl, _, rfl⟩
          simp [results, Try.results9, go_sem]
          exact he

/-- the reader at a grant's own text -/
theorem readGrant_text (r s l : ByteArray) (hr : r.size ≤ 65536) (hs : s.size ≤ 65536) (hl : l.size ≤ 65536) (ns : noSp s 0 s.size) (nl : noSp l 0 l.size) (w : World) :
    Calls Try.prog 9 #[.string (grantText r s l)] w fun e w' => e = .returned (.tuple #[.string r, .string s, .string l, .bool true]) ∧ ∃ n, w' = w.drewN n := by
  have hz := grantText_size r s l
  have hlt : ∀ k, k < 4 → s.size + 1 + l.size + k < (grantText r s l).size := fun k hk => by omega
  have h := readGrant_any (grantText r s l) s.size (s.size + 1 + l.size) (by unfold maxLen; omega) (by omega) (by omega)
    (by
      intro k _ h1 h2
      rw [text_s r s l k h2 h1]
      exact ns k (Nat.zero_le _) h2 h2)
    (by
      intro k h0 h1 h2
      obtain ⟨d, rfl⟩ : ∃ d, k = s.size + 1 + d := ⟨k - (s.size + 1), by omega⟩
      have hd : d < l.size := by omega
      rw [text_l r s l d hd h1]
      exact nl d (Nat.zero_le _) hd hd)
    (by rw [text_sp1]; rfl)
    (by have e := text_on r s l 0 (by omega) (hlt 0 (by omega)); simp only [Nat.add_zero] at e; rw [e]; rfl)
    (by
      have e := text_on r s l 1 (by omega) (hlt 1 (by omega))
      rw [ByteArray.getElem_extract]; simp only [Nat.add_zero]; rw [e]; rfl)
    (by
      have e := text_on r s l 2 (by omega) (hlt 2 (by omega))
      rw [ByteArray.getElem_extract]; simp only [Nat.add_assoc, Nat.reduceAdd] at e ⊢; rw [e]; rfl)
    (by
      have e := text_on r s l 3 (by omega) (hlt 3 (by omega))
      rw [ByteArray.getElem_extract]; simp only [Nat.add_assoc, Nat.reduceAdd] at e ⊢; rw [e]; rfl)
    w
  rw [text_part_s, text_part_r, text_part_l] at h
  exact h
end Go.Proofs.Qxb6616803a
