import Derived.Test.Qxb6617836aMaps
namespace Go.Proofs.Qxb6617836a
set_option linter.unusedVariables false

/-! ### THE PLAIN LAW: windows as lists; no Go in sight -/

/-- the last index below k at which x stands -/
def lastTo (keys : List Int) : Nat → Int → Option Nat
  | 0, _ => none
  | k + 1, x => if keys[k]? = some x then some k else lastTo keys k x

theorem lastTo_lt {keys : List Int} {k : Nat} {x : Int} {j : Nat} (h : lastTo keys k x = some j) : j < k ∧ keys[j]? = some x := by
  induction k with
  | zero => simp [lastTo] at h
  | succ k ih =>
    unfold lastTo at h
    by_cases e : keys[k]? = some x
    · rw [if_pos e] at h
      obtain rfl := Option.some.inj h
      exact ⟨by omega, e⟩
    · rw [if_neg e] at h
      exact ⟨by have := (ih h).1; omega, (ih h).2⟩

/-- what stands below k is found at that place or behind it -/
theorem lastTo_ge {keys : List Int} {k i : Nat} {x : Int} (hi : i < k) (hx : keys[i]? = some x) : ∃ j, lastTo keys k x = some j ∧ i ≤ j := by
  induction k with
  | zero => omega
  | succ k ih =>
    unfold lastTo
    by_cases e : keys[k]? = some x
    · rw [if_pos e]; exact ⟨k, rfl, by omega⟩
    · rw [if_neg e]
      have : i ≠ k := fun h => e (h ▸ hx)
      exact ih (by omega)

/-- the last index of the last index's own key is itself -/
theorem lastTo_self {keys : List Int} {n : Nat} {x y : Int} {j : Nat} (h : lastTo keys n x = some j) (hy : keys[j]? = some y) : lastTo keys n y = some j := by
  have h2 := (lastTo_lt h).2
  rw [hy] at h2
  obtain rfl := Option.some.inj h2
  exact h

structure Wins where
  keys : List Int
  ids : List Int
  parents : List Int
  roots : List Int
  pids : List Int

def Wins.n (W : Wins) : Nat := W.keys.length
def Wins.at (W : Wins) (x : Int) : Option Nat := lastTo W.keys W.keys.length x
/-- the lists are of one length -/
def Wins.even (W : Wins) : Prop := W.ids.length = W.keys.length ∧ W.parents.length = W.keys.length ∧ W.roots.length = W.keys.length ∧ W.pids.length = W.keys.length

/-- from the top down -/
def Wins.ordered (W : Wins) : Prop := ∀ i, W.at (W.keys.getD i 0) = some i → W.parents.getD i 0 ≠ W.roots.getD i 0 → ∀ j, W.at (W.parents.getD i 0) = some j → j < i

/-- the way up from a window (id, p, r), at most f steps -/
def Wins.up (W : Wins) : Nat → Int → Int → Int → Option Int
  | 0, _, _, _ => none
  | f + 1, id, p, r => if p = r then some id else match W.at p with | none => none | some j => W.up f (W.ids.getD j 0) (W.parents.getD j 0) (W.roots.getD j 0)

/-- the way up from (p, r) goes through windows below g alone -/
def Wins.low (W : Wins) (g : Nat) (p r : Int) : Prop := p ≠ r → ∀ j, W.at p = some j → j < g

theorem Wins.low_next {W : Wins} (ho : W.ordered) {x : Int} {j : Nat} (h : W.at x = some j) : W.low j (W.parents.getD j 0) (W.roots.getD j 0) := by
  intro hne j' hj'
  have hk := (lastTo_lt h).2
  have e : W.keys.getD j 0 = x := by rw [List.getD_eq_getElem?_getD, hk]; rfl
  exact ho j (by rw [e]; exact h) hne j' hj'

theorem Wins.up_stable {W : Wins} (ho : W.ordered) : ∀ (g g' : Nat) (id p r : Int), g ≤ g' → W.low g p r → W.up (g + 1) id p r = W.up (g' + 1) id p r := by
  intro g
  induction g using Nat.strongRecOn with
  | ind g ih =>
    intro g' id p r hgg hl
    unfold Wins.up
    by_cases e : p = r
    · rw [if_pos e, if_pos e]
    · rw [if_neg e, if_neg e]
      cases ha : W.at p with
      | none => rfl
      | some j =>
        have hj := hl e j ha
        have hn := W.low_next ho ha
        show W.up g _ _ _ = W.up g' _ _ _
        obtain ⟨a, rfl⟩ : ∃ a, g = a + 1 := ⟨g - 1, by omega⟩
        obtain ⟨b, rfl⟩ : ∃ b, g' = b + 1 := ⟨g' - 1, by omega⟩
        rw [← ih j (by omega) a _ _ _ (by omega) hn, ← ih j (by omega) b _ _ _ (by omega) hn]

theorem Wins.low_n (W : Wins) (p r : Int) : W.low W.keys.length p r := fun _ j h => (lastTo_lt h).1

/-- the frame: what frameOf finds -/
def Wins.frame (W : Wins) (id p r : Int) : Option Int := if p = r then none else W.up (W.keys.length + 1) id p r

/-- the way up from window j -/
def Wins.top (W : Wins) (j : Nat) : Option Int := W.up (j + 1) (W.ids.getD j 0) (W.parents.getD j 0) (W.roots.getD j 0)

theorem Wins.up_step {W : Wins} (ho : W.ordered) {id p r : Int} (hne : p ≠ r) {j : Nat} (h : W.at p = some j) : W.up (W.keys.length + 1) id p r = W.top j := by
  unfold Wins.up
  rw [if_neg hne, h]
  have hlt := (lastTo_lt h).1
  obtain ⟨a, ha⟩ : ∃ a, W.keys.length = a + 1 := ⟨W.keys.length - 1, by omega⟩
  rw [ha]
  unfold Wins.top
  exact (W.up_stable ho j a _ _ _ (by omega) (W.low_next ho h)).symm
theorem Wins.up_none {W : Wins} {id p r : Int} (hne : p ≠ r) (h : W.at p = none) : W.up (W.keys.length + 1) id p r = none := by
  unfold Wins.up
  rw [if_neg hne, h]
theorem Wins.top_root {W : Wins} {j : Nat} (h : W.parents.getD j 0 = W.roots.getD j 0) : W.top j = some (W.ids.getD j 0) := by
  unfold Wins.top Wins.up
  rw [if_pos h]
theorem Wins.top_none {W : Wins} {j : Nat} (h : W.parents.getD j 0 ≠ W.roots.getD j 0) (h2 : W.at (W.parents.getD j 0) = none) : W.top j = none := by
  unfold Wins.top Wins.up
  rw [if_neg h, h2]
theorem Wins.top_some {W : Wins} (ho : W.ordered) {x : Int} {i j : Nat} (hx : W.at x = some i) (h : W.parents.getD i 0 ≠ W.roots.getD i 0) (h2 : W.at (W.parents.getD i 0) = some j) : W.top i = W.top j := by
  have hlt := W.low_next ho hx h j h2
  unfold Wins.top
  rw [show W.up (i + 1) (W.ids.getD i 0) (W.parents.getD i 0) (W.roots.getD i 0) = W.up i (W.ids.getD j 0) (W.parents.getD j 0) (W.roots.getD j 0) from by
    conv => lhs; unfold Wins.up
    rw [if_neg h, h2]]
  obtain ⟨a, rfl⟩ : ∃ a, i = a + 1 := ⟨i - 1, by omega⟩
  exact (W.up_stable ho j a _ _ _ (by omega) (W.low_next ho h2)).symm
end Go.Proofs.Qxb6617836a
