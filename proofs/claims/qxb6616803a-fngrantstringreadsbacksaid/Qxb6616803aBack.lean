import Derived.Test.Qxb6616803aReads
namespace Go.Proofs.Qxb6616803a
open Go.ChangeShapes Go.WideShapes Go.ChangeAt Go.RowKit
set_option linter.unusedVariables false

set_option maxHeartbeats 400000 in
theorem bytes6_any (r s l r' s' l' : ByteArray) (hr : r.size ≤ maxLen) (hs : s.size ≤ maxLen) (hl : l.size ≤ maxLen) (hr' : r'.size ≤ maxLen) (hs' : s'.size ≤ maxLen) (hl' : l'.size ≤ maxLen) (w : World) :
    Calls Try.prog 5 #[.string r, .string s, .string l, .string r', .string s', .string l'] w fun e w' =>
      (∃ b : Bool, e = .returned (.bool b)) ∧ w' = w := by
  unfold maxLen at *
  go_enter Try.func5, Try.ntmps5
  go_wp2
  all_goals
    go_ret
    exact ⟨⟨_, rfl⟩, rfl⟩

theorem ret_bool {a : Bool} (h : a = true) : Ending.returned (.bool a) = .returned (.bool true) := by rw [h]
theorem Grown.drewN {W w' : World} (h : Grown W w') (n : Nat) : Grown W (w'.drewN n) := h
theorem bytes_eq_iff (a b : ByteArray) : a.toList = b.toList ↔ a = b := by
  rw [ByteArray.toList_eq, ByteArray.toList_eq]
  exact ⟨fun h => bytes_inj h, fun h => by rw [h]⟩
theorem fin_same (r s l r' s' l' : ByteArray) (n1 : noSp s 0 s.size) (n2 : noSp l 0 l.size) (n3 : noSp s' 0 s'.size) (n4 : noSp l' 0 l'.size)
    (h1 : r.toList = r'.toList) (h2 : s.toList = s'.toList) : (((grantText r s l).toList == (grantText r' s' l').toList) == (l.toList == l'.toList)) = true := by
  rw [bytes_eq_iff] at h1 h2
  subst h1 h2
  by_cases e : l = l'
  · subst e; simp
  · have a : ¬ (grantText r s l).toList = (grantText r s l').toList := fun h => e (text_inj _ _ _ _ _ _ n1 n2 n3 n4 ((bytes_eq_iff _ _).1 h)).2.2
    have b : ¬ l.toList = l'.toList := fun h => e ((bytes_eq_iff _ _).1 h)
    rw [beq_false_of_ne a, beq_false_of_ne b]; rfl
theorem fin_parts (r s l r' s' l' : ByteArray) (n1 : noSp s 0 s.size) (n2 : noSp l 0 l.size) (n3 : noSp s' 0 s'.size) (n4 : noSp l' 0 l'.size)
    (h : ¬ r.toList = r'.toList ∨ ¬ s.toList = s'.toList) : (!(grantText r s l).toList == (grantText r' s' l').toList) = true := by
  rw [bytes_eq_iff, bytes_eq_iff] at h
  have a : ¬ (grantText r s l).toList = (grantText r' s' l').toList := fun e => by
    have q := text_inj _ _ _ _ _ _ n1 n2 n3 n4 ((bytes_eq_iff _ _).1 e)
    exact h.elim (fun x => x q.1) (fun x => x q.2.1)
  rw [beq_false_of_ne a]; rfl

set_option maxHeartbeats 2000000 in
theorem back_any (r s l r' s' l' : ByteArray) (hr : r.size ≤ maxLen) (hs : s.size ≤ maxLen) (hl : l.size ≤ maxLen) (hr' : r'.size ≤ maxLen) (hs' : s'.size ≤ maxLen) (hl' : l'.size ≤ maxLen) (w : World) :
    Calls Try.prog 3 #[.string r, .string s, .string l, .string r', .string s', .string l'] w fun e w' => e = .returned (.bool true) ∧ Grown w w' := by
  have HB := bytes6_any r s l r' s' l' hr hs hl hr' hs' hl' w
  by_cases c : r.size ≤ 65536 ∧ s.size ≤ 65536 ∧ l.size ≤ 65536 ∧ r'.size ≤ 65536 ∧ s'.size ≤ 65536 ∧ l'.size ≤ 65536
  · obtain ⟨c1, c2, c3, c4, c5, c6⟩ := c
    clear hr hs hl hr' hs' hl'
    go_enter Try.func3, Try.ntmps3
    go_wp2_with fail
    refine HB.mono ?_
    rintro e w' ⟨⟨b, rfl⟩, rfl⟩
    clear HB
    cases b
    · go_wp2
      go_ret
      exact ⟨rfl, Grown.refl _⟩
    go_wp2_with fail
    refine (hasSpace_any _ (by unfold maxLen; omega) _).mono ?_
    rintro e w' ⟨⟨b, rfl, hn1⟩, rfl⟩
    cases b
    rotate_left
    · go_wp2
      go_ret
      exact ⟨rfl, Grown.refl _⟩
    have n1 := hn1 rfl
    clear hn1
    go_wp2_with fail
    refine (hasSpace_any _ (by unfold maxLen; omega) _).mono ?_
    rintro e w' ⟨⟨b, rfl, hn1⟩, rfl⟩
    cases b
    rotate_left
    · go_wp2
      go_ret
      exact ⟨rfl, Grown.refl _⟩
    have n2 := hn1 rfl
    clear hn1
    go_wp2_with fail
    refine (hasSpace_any _ (by unfold maxLen; omega) _).mono ?_
    rintro e w' ⟨⟨b, rfl, hn1⟩, rfl⟩
    cases b
    rotate_left
    · go_wp2
      go_ret
      exact ⟨rfl, Grown.refl _⟩
    have n3 := hn1 rfl
    clear hn1
    go_wp2_with fail
    refine (hasSpace_any _ (by unfold maxLen; omega) _).mono ?_
    rintro e w' ⟨⟨b, rfl, hn1⟩, rfl⟩
    cases b
    rotate_left
    · go_wp2
      go_ret
      exact ⟨rfl, Grown.refl _⟩
    have n4 := hn1 rfl
    clear hn1
    go_wp2_with fail
    refine (newGrant_any _ _ _ _).mono ?_
    rintro e w1 ⟨rfl, x1, rfl⟩
    go_wp2_with fail
    refine (string_any _ _ _ (by omega) (by omega) (by omega) _).mono ?_
    rintro e w1 ⟨rfl, x2, rfl⟩
    go_wp2_with fail
    refine (newGrant_any _ _ _ _).mono ?_
    rintro e w1 ⟨rfl, x3, rfl⟩
    go_wp2_with fail
    refine (string_any _ _ _ (by omega) (by omega) (by omega) _).mono ?_
    rintro e w1 ⟨rfl, x4, rfl⟩
    go_wp2_with fail
    refine (readGrant_text r s l (by omega) (by omega) (by omega) n1 n2 _).mono ?_
    rintro e w1 ⟨rfl, d1, rfl⟩
    go_wp2_with fail
    refine (readGrant_text r' s' l' (by omega) (by omega) (by omega) n3 n4 _).mono ?_
    rintro e w1 ⟨rfl, d2, rfl⟩
    go_wp2
    · go_ret
      exact ⟨ret_bool (fin_same r s l r' s' l' n1 n2 n3 n4 (by assumption) (by assumption)), Grown.drewN (by repeat (first | exact Grown.refl _ | apply Grown.alloc)) _⟩
    · go_ret
      exact ⟨ret_bool (fin_parts r s l r' s' l' n1 n2 n3 n4 (Or.inr (by assumption))), Grown.drewN (by repeat (first | exact Grown.refl _ | apply Grown.alloc)) _⟩
    · go_ret
      exact ⟨ret_bool (fin_parts r s l r' s' l' n1 n2 n3 n4 (Or.inl (by assumption))), Grown.drewN (by repeat (first | exact Grown.refl _ | apply Grown.alloc)) _⟩
  · unfold maxLen at *
    go_enter Try.func3, Try.ntmps3
    go_wp2_with fail
    refine HB.mono ?_
    rintro e w' ⟨⟨b, rfl⟩, rfl⟩
    clear HB
    cases b
    · go_wp2
      go_ret
      exact ⟨rfl, Grown.refl _⟩
    · go_wp2_with fail
      all_goals first
        | (go_ret
           exact ⟨rfl, Grown.refl _⟩)
        | (exfalso; omega)
end Go.Proofs.Qxb6616803a
