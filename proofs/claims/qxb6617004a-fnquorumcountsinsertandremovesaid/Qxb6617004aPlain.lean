import Derived.Test.Qxb6617004aRows
import Derived.WalkKit
import Derived.WalkSpells
import Derived.WalkLawsBesides
import Derived.ProofKit
namespace Go.Proofs.Qxb6617004a
set_option linter.unusedVariables false

/-! ### the order of byte strings -/
theorem bl_irrefl : ∀ x : List UInt8, Op.bytesLess x x = false
  | [] => rfl
  | a :: x => by simp [Op.bytesLess, bl_irrefl x]

theorem bl_trans : ∀ x y z : List UInt8, Op.bytesLess x y = true → Op.bytesLess y z = true → Op.bytesLess x z = true
  | _, [], _, h, _ => by simp [Op.bytesLess] at h
  | [], _ :: _, [], _, h => by simp [Op.bytesLess] at h
  | [], _ :: _, _ :: _, _, _ => rfl
  | _ :: _, _ :: _, [], _, h => by simp [Op.bytesLess] at h
  | a :: x, b :: y, c :: z, h1, h2 => by
    simp only [Op.bytesLess, Bool.or_eq_true, decide_eq_true_eq, Bool.and_eq_true, beq_iff_eq] at h1 h2 ⊢
    rcases h1 with h1 | ⟨rfl, h1⟩ <;> rcases h2 with h2 | ⟨rfl, h2⟩
    · exact Or.inl (UInt8.lt_trans h1 h2)
    · exact Or.inl h1
    · exact Or.inl h2
    · exact Or.inr ⟨rfl, bl_trans x y z h1 h2⟩

theorem bl_total : ∀ x y : List UInt8, Op.bytesLess x y = false → Op.bytesLess y x = false → x = y
  | [], [], _, _ => rfl
  | [], _ :: _, h, _ => by simp [Op.bytesLess] at h
  | _ :: _, [], _, h => by simp [Op.bytesLess] at h
  | a :: x, b :: y, h1, h2 => by
    simp only [Op.bytesLess, Bool.or_eq_false_iff, decide_eq_false_iff_not, Bool.and_eq_false_iff] at h1 h2
    obtain ⟨p1, p2⟩ := h1
    obtain ⟨q1, q2⟩ := h2
    have e : a = b := UInt8.le_antisymm (UInt8.not_lt.1 q1) (UInt8.not_lt.1 p1)
    subst e
    simp at p2 q2
    rw [bl_total x y p2 q2]

theorem bl_asymm (x y : List UInt8) (h : Op.bytesLess x y = true) : Op.bytesLess y x = false := by
  cases e : Op.bytesLess y x with
  | false => rfl
  | true => have := bl_trans x y x h e; rw [bl_irrefl] at this; cases this

/-- a ≤ b, b < c: a < c -/
theorem bl_le_lt (a b c : List UInt8) (h1 : Op.bytesLess b a = false) (h2 : Op.bytesLess b c = true) : Op.bytesLess a c = true := by
  cases e : Op.bytesLess a b with
  | true => exact bl_trans a b c e h2
  | false => rw [bl_total a b e h1]; exact h2

theorem bl_append (p x y : List UInt8) : Op.bytesLess (p ++ x) (p ++ y) = Op.bytesLess x y := by
  induction p with
  | nil => rfl
  | cons a p ih => simp [Op.bytesLess, ih]

/-! ### the law's own comparison -/
def cmpL (x y : List UInt8) : Int := if Op.bytesLess x y then -1 else if Op.bytesLess y x then 1 else 0
def cmpB (a b : ByteArray) : Int := cmpL a.toList b.toList
/-- the first k bytes are the same -/
def pre (a b : ByteArray) (k : Nat) : Prop := a.data.toList.take k = b.data.toList.take k

theorem pre_zero (a b : ByteArray) : pre a b 0 := by simp [pre]
theorem data_cut (a : ByteArray) (k : Nat) (h : k < a.size) : a.data.toList = a.data.toList.take k ++ a[k] :: a.data.toList.drop (k + 1) := by
  have h' : k < a.data.toList.length := by simpa using h
  have e : a[k] = a.data.toList[k] := by rw [ByteArray.getElem_eq_getElem_data]; simp
  rw [e, List.getElem_cons_drop, List.take_append_drop]

theorem pre_succ (a b : ByteArray) (k : Nat) (ha : k < a.size) (hb : k < b.size) (hp : pre a b k) (h : (a[k].toNat : Int) = b[k].toNat) : pre a b (k + 1) := by
  unfold pre at hp ⊢
  have ea : a[k] = b[k] := UInt8.toNat_inj.1 (by omega)
  have h1 : a.data.toList[k]'(by simpa using ha) = b.data.toList[k]'(by simpa using hb) := by
    have := ea; rw [ByteArray.getElem_eq_getElem_data, ByteArray.getElem_eq_getElem_data] at this; simpa using this
  rw [List.take_succ_eq_append_getElem (by simpa using ha), List.take_succ_eq_append_getElem (by simpa using hb), hp, h1]

theorem cmp_lt (a b : ByteArray) (k : Nat) (ha : k < a.size) (hb : k < b.size) (hp : pre a b k) (h : (a[k].toNat : Int) < b[k].toNat) : cmpB a b = -1 := by
  unfold cmpB cmpL pre at *
  rw [ByteArray.toList_eq, ByteArray.toList_eq, data_cut a k ha, data_cut b k hb, hp, bl_append]
  have : a[k] < b[k] := UInt8.lt_iff_toNat_lt.2 (by omega)
  simp [Op.bytesLess, this]

theorem cmp_gt (a b : ByteArray) (k : Nat) (ha : k < a.size) (hb : k < b.size) (hp : pre a b k) (h : (b[k].toNat : Int) < a[k].toNat) : cmpB a b = 1 := by
  unfold cmpB cmpL pre at *
  rw [ByteArray.toList_eq, ByteArray.toList_eq, data_cut a k ha, data_cut b k hb, hp, bl_append, bl_append]
  have h1 : b[k] < a[k] := UInt8.lt_iff_toNat_lt.2 (by omega)
  have h2 : ¬ a[k] < b[k] := fun h => by have := UInt8.lt_iff_toNat_lt.1 h; omega
  have h3 : ¬ a[k] = b[k] := fun e => by rw [e] at h; omega
  simp [Op.bytesLess, h1, h2, h3]

theorem bl_head (x : List UInt8) (c : UInt8) (y : List UInt8) : Op.bytesLess x (x ++ c :: y) = true := by
  have := bl_append x [] (c :: y)
  rw [List.append_nil] at this
  rw [this]; rfl

theorem pre_eq_take (a b : ByteArray) (k : Nat) (h : pre a b k) (ha : a.size ≤ k) (hb : k ≤ b.size) : a.data.toList = b.data.toList.take k := by
  unfold pre at h
  rw [← h, List.take_of_length_le (by simpa using ha)]

theorem cmp_short (a b : ByteArray) (k : Nat) (hp : pre a b k) (hk : k = a.size) (h : a.size < b.size) : cmpB a b = -1 := by
  have e := pre_eq_take a b k hp (by omega) (by omega)
  unfold cmpB cmpL
  rw [ByteArray.toList_eq, ByteArray.toList_eq, e]
  have c := data_cut b k (by omega)
  have : Op.bytesLess (b.data.toList.take k) b.data.toList = true := by
    conv => lhs; arg 2; rw [c]
    exact bl_head _ _ _
  simp [this]

theorem cmp_long (a b : ByteArray) (k : Nat) (hp : pre a b k) (hk : k = b.size) (h : b.size < a.size) : cmpB a b = 1 := by
  have e := pre_eq_take b a k hp.symm (by omega) (by omega)
  unfold cmpB cmpL
  rw [ByteArray.toList_eq, ByteArray.toList_eq, e]
  have c := data_cut a k (by omega)
  have : Op.bytesLess (a.data.toList.take k) a.data.toList = true := by
    conv => lhs; arg 2; rw [c]
    exact bl_head _ _ _
  simp [this, bl_asymm _ _ this]

theorem cmp_same (a b : ByteArray) (k : Nat) (hp : pre a b k) (hk : k = a.size) (h : a.size = b.size) : cmpB a b = 0 := by
  have e := pre_eq_take a b k hp (by omega) (by omega)
  rw [List.take_of_length_le (by simp; omega)] at e
  unfold cmpB cmpL
  rw [ByteArray.toList_eq, ByteArray.toList_eq, e, bl_irrefl]
  simp

theorem cmpB_pos (a b : ByteArray) : (0 < cmpB a b) ↔ Op.bytesLess b.toList a.toList = true := by
  unfold cmpB cmpL
  cases h : Op.bytesLess a.toList b.toList with
  | true => simp [bl_asymm _ _ h]
  | false => cases Op.bytesLess b.toList a.toList <;> simp
theorem cmpB_neg (a b : ByteArray) : (cmpB a b < 0) ↔ Op.bytesLess a.toList b.toList = true := by
  unfold cmpB cmpL
  cases h : Op.bytesLess a.toList b.toList with
  | true => simp
  | false => cases Op.bytesLess b.toList a.toList <;> simp
theorem cmpB_bd (a b : ByteArray) : -1 ≤ cmpB a b ∧ cmpB a b ≤ 1 := by
  unfold cmpB cmpL; split
  · simp
  · split <;> simp
theorem bytes_eq_iff (a b : ByteArray) : a.toList = b.toList ↔ a = b := by
  rw [ByteArray.toList_eq, ByteArray.toList_eq]
  exact ⟨fun h => WideShapes.bytes_inj h, fun h => by rw [h]⟩

/-! ### sorted lists; membership -/
/-- is x among ss? -/
def hasB (ss : List ByteArray) (x : ByteArray) : Bool := ss.any fun s => s.toList == x.toList
/-- in nondecreasing byte order -/
def Srt (ss : List ByteArray) : Prop := ss.Pairwise fun a b => Op.bytesLess b.toList a.toList = false

theorem Srt.at {ss : List ByteArray} (h : Srt ss) {i j : Nat} (hij : i ≤ j) (hj : j < ss.length) : Op.bytesLess (ss[j]).toList (ss[i]).toList = false := by
  by_cases e : i = j
  · subst e; exact bl_irrefl _
  · exact List.pairwise_iff_getElem.1 h i j (by omega) hj (by omega)

theorem hasB_iff (ss : List ByteArray) (x : ByteArray) : hasB ss x = true ↔ ∃ i, ∃ h : i < ss.length, (ss[i]).toList = x.toList := by
  unfold hasB
  rw [List.any_eq_true]
  constructor
  · rintro ⟨s, hs, e⟩
    obtain ⟨i, hi, rfl⟩ := List.mem_iff_getElem.1 hs
    exact ⟨i, hi, by simpa using e⟩
  · rintro ⟨i, hi, e⟩
    exact ⟨_, List.getElem_mem hi, by simpa using e⟩

theorem hasB_append (a b : List ByteArray) (x : ByteArray) : hasB (a ++ b) x = (hasB a x || hasB b x) := by
  unfold hasB; rw [List.any_append]
theorem hasB_cut (ss : List ByteArray) (k : Nat) (x : ByteArray) : hasB ss x = (hasB (ss.take k) x || hasB (ss.drop k) x) := by
  rw [← hasB_append, List.take_append_drop]

/-- What the halving finds. -/
theorem found {ss : List ByteArray} (hs : Srt ss) (x : ByteArray) (p : Nat) (h1 : ∀ t, t < p → ∀ h : t < ss.length, Op.bytesLess (ss[t]).toList x.toList = true)
    (h2 : ∀ t, p ≤ t → ∀ h : t < ss.length, Op.bytesLess (ss[t]).toList x.toList = false) (hp : p < ss.length) : hasB ss x = ((ss[p]).toList == x.toList) := by
  rw [Bool.eq_iff_iff, hasB_iff]
  constructor
  · rintro ⟨t, ht, e⟩
    have hpt : p ≤ t := by
      apply Nat.le_of_not_lt
      intro h
      have := h1 t h ht
      rw [e, bl_irrefl] at this
      cases this
    have a := hs.at hpt ht
    have b := h2 p (Nat.le_refl _) hp
    rw [e] at a
    have := bl_total _ _ b a
    simpa using this
  · intro e
    exact ⟨p, hp, by simpa using e⟩
theorem found_none {ss : List ByteArray} (x : ByteArray) (h1 : ∀ t, ∀ h : t < ss.length, Op.bytesLess (ss[t]).toList x.toList = true) : hasB ss x = false := by
  cases e : hasB ss x with
  | false => rfl
  | true =>
    obtain ⟨t, ht, e⟩ := (hasB_iff _ _).1 e
    have := h1 t ht
    rw [e, bl_irrefl] at this
    cases this
end Go.Proofs.Qxb6617004a
