import Derived.Test.Qxb6616803aGrant
namespace Go.Proofs.Qxb6616803a

/-! ### THE PLAIN LAW: a grant's text reads back: no Go in sight -/

/-- no byte of s from i on and before j is a space -/
def noSp (s : ByteArray) (i j : Nat) : Prop := ∀ k, i ≤ k → (h : k < s.size) → k < j → ((s[k].toNat : Int) == 32) = false

theorem noSp_succ {s : ByteArray} {k : Nat} (h : noSp s 0 k) (hk : k < s.size) (hx : ((s[k].toNat : Int) == 32) = false) : noSp s 0 (k + 1) := by
  intro i h0 h1 h2
  by_cases e : i = k
  · subst e; exact hx
  · exact h i h0 h1 (by omega)

theorem size1 : (ByteArray.mk #[32]).size = 1 := rfl
theorem size4 : (ByteArray.mk #[32, 111, 110, 32]).size = 4 := rfl

theorem grantText_size (r s l : ByteArray) : (grantText r s l).size = r.size + s.size + l.size + 5 := by
  unfold grantText; simp only [ByteArray.size_append, size1, size4]; omega

theorem text_s (r s l : ByteArray) (k : Nat) (hk : k < s.size) (h : k < (grantText r s l).size) : (grantText r s l)[k] = s[k] := by
  revert h
  unfold grantText
  intro h
  rw [ByteArray.getElem_append_left (by simp only [ByteArray.size_append]; omega), ByteArray.getElem_append_left (by simp only [ByteArray.size_append]; omega),
    ByteArray.getElem_append_left (by simp only [ByteArray.size_append]; omega), ByteArray.getElem_append_left hk]

theorem text_sp1 (r s l : ByteArray) (h : s.size < (grantText r s l).size) : (grantText r s l)[s.size] = 32 := by
  revert h
  unfold grantText
  intro h
  rw [ByteArray.getElem_append_left (by simp only [ByteArray.size_append, size1]; omega), ByteArray.getElem_append_left (by simp only [ByteArray.size_append, size1]; omega),
    ByteArray.getElem_append_left (by simp only [ByteArray.size_append, size1]; omega), ByteArray.getElem_append_right (Nat.le_refl _)]
  simp only [Nat.sub_self]; rfl

theorem text_l (r s l : ByteArray) (k : Nat) (hk : k < l.size) (h : s.size + 1 + k < (grantText r s l).size) : (grantText r s l)[s.size + 1 + k] = l[k] := by
  revert h
  unfold grantText
  intro h
  rw [ByteArray.getElem_append_left (by simp only [ByteArray.size_append, size1]; omega), ByteArray.getElem_append_left (by simp only [ByteArray.size_append, size1]; omega),
    ByteArray.getElem_append_right (by simp only [ByteArray.size_append, size1]; omega)]
  simp only [ByteArray.size_append, size1, Nat.add_sub_cancel_left]

theorem text_on (r s l : ByteArray) (k : Nat) (hk : k < 4) (h : s.size + 1 + l.size + k < (grantText r s l).size) :
    (grantText r s l)[s.size + 1 + l.size + k] = (ByteArray.mk #[32, 111, 110, 32])[k]'(by rw [size4]; exact hk) := by
  revert h
  unfold grantText
  intro h
  rw [ByteArray.getElem_append_left (by simp only [ByteArray.size_append, size1, size4]; omega), ByteArray.getElem_append_right (by simp only [ByteArray.size_append, size1]; omega)]
  simp only [ByteArray.size_append, size1, Nat.add_sub_cancel_left]

theorem text_part_s (r s l : ByteArray) : (grantText r s l).extract 0 s.size = s := by
  unfold grantText
  simp only [ByteArray.append_assoc]
  exact ByteArray.extract_append_eq_left rfl

theorem text_part_r (r s l : ByteArray) : (grantText r s l).extract (s.size + 1 + l.size + 4) (grantText r s l).size = r := by
  have h := grantText_size r s l
  rw [h]
  unfold grantText
  refine ByteArray.extract_append_eq_right ?_ ?_
  · simp only [ByteArray.size_append, size1, size4]
  · simp only [ByteArray.size_append, size1, size4]; omega

theorem text_part_l (r s l : ByteArray) : (grantText r s l).extract (s.size + 1) (s.size + 1 + l.size) = l := by
  have e : (grantText r s l) = (s ++ ⟨#[32]⟩) ++ (l ++ (⟨#[32, 111, 110, 32]⟩ ++ r)) := by
    unfold grantText; simp only [ByteArray.append_assoc]
  rw [e, ByteArray.extract_append]
  have h1 : (s ++ ByteArray.mk #[32]).size = s.size + 1 := by rw [ByteArray.size_append, size1]
  rw [h1, Nat.sub_self, Nat.add_sub_cancel_left, ByteArray.extract_append_eq_left rfl, ByteArray.extract_eq_empty_iff.2 (by omega), ByteArray.empty_append]

/-! ### two texts are one only where the grants are -/
theorem cut_space (a b x y : List UInt8) (ha : 32 ∉ a) (hb : 32 ∉ b) (h : a ++ 32 :: x = b ++ 32 :: y) : a = b ∧ x = y := by
  induction a generalizing b with
  | nil =>
    cases b with
    | nil => simpa using h
    | cons c b => simp at h hb; exact absurd h.1 hb.1
  | cons c a ih =>
    cases b with
    | nil => simp at h ha; exact absurd h.1.symm ha.1
    | cons d b =>
      simp at h ha hb
      obtain ⟨e1, e2⟩ := ih b ha.2 hb.2 h.2
      exact ⟨by rw [h.1, e1], e2⟩

theorem notin_of_noSp (s : ByteArray) (h : noSp s 0 s.size) : 32 ∉ s.data.toList := by
  intro hm
  obtain ⟨k, hk, e⟩ := List.mem_iff_getElem.1 hm
  have hk' : k < s.size := by simpa using hk
  have := h k (Nat.zero_le _) hk' hk'
  have e' : s[k] = 32 := by rw [ByteArray.getElem_eq_getElem_data]; simpa using e
  rw [e'] at this
  exact absurd this (by decide)

theorem text_list (r s l : ByteArray) : (grantText r s l).data.toList = s.data.toList ++ 32 :: (l.data.toList ++ 32 :: (111 :: 110 :: 32 :: r.data.toList)) := by
  unfold grantText
  simp [ByteArray.data_append]

theorem text_inj (r s l r' s' l' : ByteArray) (h1 : noSp s 0 s.size) (h2 : noSp l 0 l.size) (h3 : noSp s' 0 s'.size) (h4 : noSp l' 0 l'.size)
    (h : grantText r s l = grantText r' s' l') : r = r' ∧ s = s' ∧ l = l' := by
  have e := congrArg (fun t : ByteArray => t.data.toList) h
  simp only [text_list] at e
  obtain ⟨a, e⟩ := cut_space _ _ _ _ (notin_of_noSp s h1) (notin_of_noSp s' h3) e
  obtain ⟨b, e⟩ := cut_space _ _ _ _ (notin_of_noSp l h2) (notin_of_noSp l' h4) e
  simp at e
  exact ⟨ByteArray.ext e, ByteArray.ext (Array.toList_inj.1 a), ByteArray.ext (Array.toList_inj.1 b)⟩
end Go.Proofs.Qxb6616803a
