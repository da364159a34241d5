import Derived.Lib.SpaceUEq
import Derived.Lib.SlicesS
namespace Go.Proofs.Qxb6618623aDoor
open Go.Lib
set_option linter.unusedVariables false

/-! ### THE PLAIN LAW: fields of bytes; no Go in sight -/

/-- no white-space character but the space itself holds the byte 32 -/
theorem no32 : ∀ s ∈ spaceSeqs, s = [32] ∨ ∀ x ∈ s, x ≠ 32 := by decide

theorem prefix_stop (s : List UInt8) (h : ∀ x ∈ s, x ≠ 32) : ∀ (l b : List UInt8), s.isPrefixOf (l ++ 32 :: b) = s.isPrefixOf l := by
  induction s with
  | nil => intro l b; cases l <;> rfl
  | cons x s ih =>
    intro l b
    cases l with
    | nil =>
      have : (x == 32) = false := beq_false_of_ne (h x (by simp))
      simp [List.isPrefixOf, this]
    | cons y l =>
      simp only [List.cons_append, List.isPrefixOf]
      rw [ih (fun z hz => h z (by simp [hz]))]
theorem prefix_one (x : UInt8) (l b : List UInt8) (hl : l ≠ []) : ([x] : List UInt8).isPrefixOf (l ++ b) = ([x] : List UInt8).isPrefixOf l := by
  cases l with
  | nil => exact absurd rfl hl
  | cons y l => simp [List.isPrefixOf]
theorem prefix_same {s : List UInt8} (hs : s ∈ spaceSeqs) {l : List UInt8} (hl : l ≠ []) (b : List UInt8) : s.isPrefixOf (l ++ 32 :: b) = s.isPrefixOf l := by
  rcases no32 s hs with rfl | h
  · exact prefix_one 32 l _ hl
  · exact prefix_stop s h l b
theorem find_congr {α : Type} {p q : α → Bool} : ∀ {l : List α}, (∀ x ∈ l, p x = q x) → l.find? p = l.find? q
  | [], _ => rfl
  | x :: l, h => by
    simp only [List.find?]
    rw [h x (by simp), find_congr (l := l) fun y hy => h y (by simp [hy])]
theorem head_same {l : List UInt8} (hl : l ≠ []) (b : List UInt8) : headSpace (l ++ 32 :: b) = headSpace l := by
  unfold headSpace
  rw [find_congr (q := fun x => x.isPrefixOf l) fun s hs => prefix_same hs hl b]
theorem isPrefix_le : ∀ {s l : List UInt8}, s.isPrefixOf l = true → s.length ≤ l.length
  | [], _, _ => Nat.zero_le _
  | _ :: _, [], h => by simp [List.isPrefixOf] at h
  | x :: s, y :: l, h => by
    simp only [List.isPrefixOf, Bool.and_eq_true] at h
    have := isPrefix_le h.2
    simp; omega
theorem head_le (l : List UInt8) : headSpace l ≤ l.length := by
  unfold headSpace
  cases h : spaceSeqs.find? (·.isPrefixOf l) with
  | none => simp
  | some s =>
    have := List.find?_some h
    simpa using isPrefix_le this
theorem head_space (b : List UInt8) : headSpace (32 :: b) = 1 := by
  have h : spaceSeqs.find? (·.isPrefixOf (32 :: b)) = some [32] := by
    simp [spaceSeqs, List.find?, List.isPrefixOf]
  unfold headSpace
  rw [h]
  rfl

/-- the fields, the open one being cur -/
def F (cur l : List UInt8) : List (List UInt8) := fieldsGoU (l.length + 1) cur l
def shut (cur : List UInt8) : List (List UInt8) := if cur = [] then [] else [cur]
theorem goU_fuel (f g : Nat) (cur l : List UInt8) (hf : l.length ≤ f) (hg : l.length ≤ g) : fieldsGoU f cur l = fieldsGoU g cur l :=
  (fieldsGo_eq l.length f cur l (Nat.le_refl _) hf).trans (fieldsGo_eq l.length g cur l (Nat.le_refl _) hg).symm
theorem F_nil (cur : List UInt8) : F cur [] = shut cur := rfl
theorem F_byte (cur : List UInt8) (x : UInt8) (t : List UInt8) (h : headSpace (x :: t) = 0) : F cur (x :: t) = F (cur ++ [x]) t := by
  unfold F
  conv => lhs; unfold fieldsGoU
  rw [if_pos h]
  exact goU_fuel _ _ _ _ (by simp) (by omega)
theorem F_space (cur : List UInt8) (x : UInt8) (t : List UInt8) (h : headSpace (x :: t) ≠ 0) : F cur (x :: t) = shut cur ++ F [] ((x :: t).drop (headSpace (x :: t))) := by
  unfold F
  conv => lhs; unfold fieldsGoU
  rw [if_neg h]
  unfold shut
  rw [goU_fuel _ (((x :: t).drop (headSpace (x :: t))).length + 1) _ _ (by rw [List.length_drop, List.length_cons]; omega) (by omega)]

/-- a space parts the fields -/
theorem F_join (b : List UInt8) : ∀ (m : Nat) (a cur : List UInt8), a.length ≤ m → F cur (a ++ 32 :: b) = F cur a ++ F [] b := by
  intro m
  induction m with
  | zero =>
    intro a cur h
    have : a = [] := List.eq_nil_of_length_eq_zero (by omega)
    subst this
    rw [List.nil_append, F_space cur 32 b (by rw [head_space]; omega), head_space, F_nil]
    rfl
  | succ m ih =>
    intro a cur h
    cases a with
    | nil =>
      rw [List.nil_append, F_space cur 32 b (by rw [head_space]; omega), head_space, F_nil]
      rfl
    | cons x a =>
      have hs : headSpace (x :: (a ++ 32 :: b)) = headSpace (x :: a) := head_same (l := x :: a) (by simp) b
      rw [List.cons_append]
      by_cases h0 : headSpace (x :: a) = 0
      · rw [F_byte cur x _ (by rw [hs]; exact h0), F_byte cur x a h0]
        exact ih a _ (by simp at h; omega)
      · rw [F_space cur x _ (by rw [hs]; exact h0), F_space cur x a h0, hs]
        have hle := head_le (x :: a)
        rw [show (x :: (a ++ 32 :: b)).drop (headSpace (x :: a)) = (x :: a).drop (headSpace (x :: a)) ++ 32 :: b from by
          rw [← List.cons_append, List.drop_append_of_le_length hle]]
        rw [ih _ [] (by simp at h ⊢; omega), List.append_assoc]

theorem fields_join (a b : List UInt8) : fieldsD (a ++ 32 :: b) = fieldsD a ++ fieldsD b := by
  rw [← fieldsU_eq, ← fieldsU_eq, ← fieldsU_eq]
  exact F_join b _ a [] (Nat.le_refl _)

/-- the word _Atomic -/
def word : List UInt8 := [95, 65, 116, 111, 109, 105, 99]
theorem fields_word : fieldsD word = [word] := by
  rw [← fieldsU_eq]
  decide
/-- is the word among the fields? -/
def atomicL (l : List UInt8) : Bool := containsS ((fieldsD l).map fun x => (⟨x.toArray⟩ : ByteArray)) ⟨#[95, 65, 116, 111, 109, 105, 99]⟩
theorem atomicL_iff (l : List UInt8) : atomicL l = true ↔ word ∈ fieldsD l := by
  unfold atomicL
  rw [containsS_iff, List.mem_map]
  constructor
  · rintro ⟨x, hx, e⟩
    have : x.toArray = #[95, 65, 116, 111, 109, 105, 99] := congrArg ByteArray.data e
    have h2 : x = word := congrArg Array.toList this
    rw [← h2]; exact hx
  · intro h
    exact ⟨word, h, rfl⟩
theorem atomic_join (a b : List UInt8) : atomicL (a ++ 32 :: b) = (atomicL a || atomicL b) := by
  rw [Bool.eq_iff_iff, Bool.or_eq_true, atomicL_iff, atomicL_iff, atomicL_iff, fields_join, List.mem_append]
theorem atomic_put (a b : List UInt8) : atomicL (a ++ 32 :: (word ++ 32 :: b)) = true := by
  rw [atomic_join, atomic_join]
  have : atomicL word = true := by rw [atomicL_iff, fields_word]; simp
  rw [this]; simp
end Go.Proofs.Qxb6618623aDoor
