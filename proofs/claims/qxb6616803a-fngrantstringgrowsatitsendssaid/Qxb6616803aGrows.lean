import Derived.Test.Qxb6616803aGrant
namespace Go.Proofs.Qxb6616803a
open Go.ChangeShapes Go.WideShapes Go.ChangeAt Go.RowKit
set_option linter.unusedVariables false

theorem grantText_size (r s l : ByteArray) : (grantText r s l).size = r.size + s.size + l.size + 5 := by
  have e1 : (ByteArray.mk #[32]).size = 1 := rfl
  have e2 : (ByteArray.mk #[32, 111, 110, 32]).size = 4 := rfl
  unfold grantText; simp only [ByteArray.size_append, e1, e2]; omega
theorem grantText_back (r s l t : ByteArray) : grantText (r ++ t) s l = grantText r s l ++ t := by
  unfold grantText; simp only [ByteArray.append_assoc]
theorem grantText_front (r s l t : ByteArray) : grantText r (t ++ s) l = t ++ grantText r s l := by
  unfold grantText; simp only [ByteArray.append_assoc]

set_option maxHeartbeats 1000000 in
theorem grows_any (r s l t : ByteArray) (hr : r.size ≤ maxLen) (hs : s.size ≤ maxLen) (hl : l.size ≤ maxLen) (ht : t.size ≤ maxLen) (w : World) :
    Calls Try.prog 4 #[.string r, .string s, .string l, .string t] w fun e w' => e = .returned (.bool true) ∧ Grown w w' := by
  by_cases c : r.size ≤ 65536 ∧ s.size ≤ 65536 ∧ l.size ≤ 65536 ∧ t.size ≤ 65536
  · obtain ⟨c1, c2, c3, c4⟩ := c
    have HB := bytes4_any r s l t hr hs hl ht w
    clear hr hs hl ht
    have z1 := grantText_size r s l
    have e1 : (r ++ t).size ≤ 131072 := by rw [ByteArray.size_append]; omega
    have e2 : (t ++ s).size ≤ 131072 := by rw [ByteArray.size_append]; omega
    go_enter Try.func4, Try.ntmps4
    go_wp2_with fail
    refine HB.mono ?_
    rintro e w' ⟨⟨b, rfl⟩, rfl⟩
    clear HB
    cases b
    · go_wp2
      go_ret
      exact ⟨rfl, Grown.refl _⟩
    · go_wp2_with fail
      refine (newGrant_any _ _ _ _).mono ?_
      rintro e w1 ⟨rfl, x1, rfl⟩
      go_wp2_with fail
      refine (string_any _ _ _ (by omega) (by omega) (by omega) _).mono ?_
      rintro e w1 ⟨rfl, x2, rfl⟩
      go_wp2_with fail
      refine (newGrant_any _ _ _ _).mono ?_
      rintro e w1 ⟨rfl, x3, rfl⟩
      go_wp2_with fail
      refine (string_any _ _ _ e1 (by omega) (by omega) _).mono ?_
      rintro e w1 ⟨rfl, x4, rfl⟩
      go_wp2_with fail
      refine (newGrant_any _ _ _ _).mono ?_
      rintro e w1 ⟨rfl, x5, rfl⟩
      go_wp2_with fail
      refine (string_any _ _ _ (by omega) e2 (by omega) _).mono ?_
      rintro e w1 ⟨rfl, x6, rfl⟩
      rw [grantText_back, grantText_front]
      generalize grantText r s l = g at *
      go_wp2
      go_ret
      exact ⟨rfl, by repeat (first | exact Grown.refl _ | apply Grown.drew | apply Grown.alloc)⟩
  · have HB := bytes4_any r s l t hr hs hl ht w
    unfold maxLen at *
    go_enter Try.func4, Try.ntmps4
    go_wp2_with fail
    refine HB.mono ?_
    rintro e w' ⟨⟨b, rfl⟩, rfl⟩
    clear HB
    cases b
    · go_wp2
      go_ret
      exact ⟨rfl, Grown.refl _⟩
    · go_wp2_with fail
      all_goals first
        | (go_ret
           exact ⟨rfl, Grown.refl _⟩)
        | (exfalso; omega)
end Go.Proofs.Qxb6616803a
