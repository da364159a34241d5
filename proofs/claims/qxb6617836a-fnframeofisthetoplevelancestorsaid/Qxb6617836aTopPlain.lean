import Derived.Test.Qxb6617836aBytes
import Derived.Deep.OwnRows
namespace Go.Proofs.Qxb6617836a
open Go.ChangeShapes Go.WideShapes Go.ChangeAt Go.RowKit
set_option linter.unusedVariables false

/-- a window held by window e shares its way up -/
theorem Wins.frame_step {W : Wins} (ho : W.ordered) {x croot : Int} (cid : Int) {e : Nat} (hx : W.at x = some e) (hne : x ≠ croot) : W.frame cid x croot = W.top e := by
  unfold Wins.frame
  rw [if_neg hne, W.up_step ho hne hx]
theorem Wins.frame_gone {W : Wins} {x croot : Int} (cid : Int) (hx : W.at x = none) (hne : x ≠ croot) : W.frame cid x croot = none := by
  unfold Wins.frame
  rw [if_neg hne, W.up_none hne hx]

/-- block B is a row of n cells that hold f -/
def rowB (w : World) (B n : Nat) (t : TypeId) (f : Nat → Value) : Prop := ∃ cs : Array Value, w.heap[B]? = some (.cells cs t (0, 0)) ∧ cs.size = n ∧ ∀ j, j < n → cs[j]? = some (f j)
theorem rowB.cell {w : World} {B n : Nat} {t : TypeId} {f : Nat → Value} (h : rowB w B n t f) {j : Nat} (hj : j < n) : w.cell? ⟨B, j, none⟩ = some (f j) := by
  obtain ⟨cs, hh, hs, hc⟩ := h
  simp [World.cell?, hh, hc j hj]
theorem rowB.frozen {w : World} {B n : Nat} {t : TypeId} {f : Nat → Value} (h : rowB w B n t f) (j : Nat) : w.frozen? ⟨B, j, none⟩ = false := by
  obtain ⟨cs, hh, hs, hc⟩ := h
  simp [World.frozen?, hh]
theorem rowB.set {w : World} {B n : Nat} {t : TypeId} {f : Nat → Value} (h : rowB w B n t f) (i : Nat) (v : Value) : rowB (w.setCell ⟨B, i, none⟩ v) B n t (fun j => if j = i then v else f j) := by
  obtain ⟨cs, hh, hs, hc⟩ := h
  refine ⟨_, heap_setCell_same w B i cs t v hh, by simp [hs], fun j hj => ?_⟩
  by_cases e : j = i
  · subst e
    simp [hs, hj]
  · rw [Array.getElem?_setIfInBounds_ne (Ne.symm e)]
    show cs[j]? = some (if j = i then v else f j)
    rw [if_neg e]
    exact hc j hj
theorem rowB.other {w : World} {B n : Nat} {t : TypeId} {f : Nat → Value} (h : rowB w B n t f) {B' : Nat} (hne : B ≠ B') (i : Nat) (v : Value) : rowB (w.setCell ⟨B', i, none⟩ v) B n t f := by
  obtain ⟨cs, hh, hs, hc⟩ := h
  exact ⟨cs, by rw [Below.heap_setCell w ⟨B', i, none⟩ v B hne]; exact hh, hs, hc⟩
theorem rowB.drewN {w : World} {B n : Nat} {t : TypeId} {f : Nat → Value} (h : rowB w B n t f) (m : Nat) : rowB (w.drewN m) B n t f := h
theorem rowB.congr {w : World} {B n : Nat} {t : TypeId} {f g : Nat → Value} (h : rowB w B n t f) (e : ∀ j, f j = g j) : rowB w B n t g := by
  obtain ⟨cs, hh, hs, hc⟩ := h
  exact ⟨cs, hh, hs, fun j hj => by rw [← e j]; exact hc j hj⟩
theorem rowB.made {w : World} {B n : Nat} {t : TypeId} {z : Value} (h : w.heap[B]? = some (.cells (madeCells #[z] n) t (0, 0))) : rowB w B n t (fun _ => z) :=
  ⟨_, h, by simp [madeCells], fun j hj => by simp [madeCells, hj, Nat.mod_one]⟩

/-- what the pass from the top down has found below i -/
def Inv (W : Wins) (i : Nat) (rc : Nat → Bool) (tp : Nat → Int) : Prop :=
  (∀ j, i ≤ j → rc j = false) ∧ ∀ j, j < i → W.at (W.keys.getD j 0) = some j → rc j = (W.top j).isSome ∧ ∀ id, W.top j = some id → tp j = id
theorem Inv.skip {W : Wins} {i : Nat} {rc : Nat → Bool} {tp : Nat → Int} (h : Inv W i rc tp) (hne : W.at (W.keys.getD i 0) ≠ some i) : Inv W (i + 1) rc tp := by
  refine ⟨fun j hj => h.1 j (by omega), fun j hj hat => ?_⟩
  by_cases e : j = i
  · subst e; exact absurd hat hne
  · exact h.2 j (by omega) hat
theorem Inv.gone {W : Wins} {i : Nat} {rc : Nat → Bool} {tp : Nat → Int} (h : Inv W i rc tp) (h1 : W.parents.getD i 0 ≠ W.roots.getD i 0) (h2 : W.at (W.parents.getD i 0) = none) : Inv W (i + 1) rc tp := by
  refine ⟨fun j hj => h.1 j (by omega), fun j hj hat => ?_⟩
  by_cases e : j = i
  · subst e
    rw [W.top_none h1 h2, h.1 j (Nat.le_refl _)]
    exact ⟨rfl, fun id h => by cases h⟩
  · exact h.2 j (by omega) hat
theorem Inv.root {W : Wins} {i : Nat} {rc : Nat → Bool} {tp : Nat → Int} (h : Inv W i rc tp) (h1 : W.parents.getD i 0 = W.roots.getD i 0) : Inv W (i + 1) (fun j => if j = i then true else rc j) (fun j => if j = i then W.ids.getD i 0 else tp j) := by
  refine ⟨fun j hj => ?_, fun j hj hat => ?_⟩
  · show (if j = i then true else rc j) = false
    rw [if_neg (by omega)]; exact h.1 j (by omega)
  · show (if j = i then true else rc j) = _ ∧ ∀ id, W.top j = some id → (if j = i then W.ids.getD i 0 else tp j) = id
    by_cases e : j = i
    · subst e
      rw [if_pos rfl, if_pos rfl, W.top_root h1]
      exact ⟨rfl, fun id h => Option.some.inj h⟩
    · rw [if_neg e, if_neg e]
      exact h.2 j (by omega) hat
theorem Inv.next {W : Wins} (ho : W.ordered) {i k : Nat} {rc : Nat → Bool} {tp : Nat → Int} (h : Inv W i rc tp) {x : Int} (hx : W.at x = some i) (h1 : W.parents.getD i 0 ≠ W.roots.getD i 0) (h2 : W.at (W.parents.getD i 0) = some k) :
    Inv W (i + 1) (fun j => if j = i then rc k else rc j) (fun j => if j = i then tp k else tp j) := by
  have hk := W.low_next ho hx h1 k h2
  have hkk : W.at (W.keys.getD k 0) = some k := lastTo_self h2 (by have := (lastTo_lt h2).2; simp [List.getD_eq_getElem?_getD, this])
  refine ⟨fun j hj => ?_, fun j hj hat => ?_⟩
  · show (if j = i then rc k else rc j) = false
    rw [if_neg (by omega)]; exact h.1 j (by omega)
  · show (if j = i then rc k else rc j) = _ ∧ ∀ id, W.top j = some id → (if j = i then tp k else tp j) = id
    by_cases e : j = i
    · subst e
      rw [if_pos rfl, if_pos rfl, W.top_some ho hx h1 h2]
      exact h.2 k hk hkk
    · rw [if_neg e, if_neg e]
      exact h.2 j (by omega) hat
theorem Inv.last {W : Wins} {rc : Nat → Bool} {tp : Nat → Int} (h : Inv W W.keys.length rc tp) {x : Int} {k : Nat} (h2 : W.at x = some k) : rc k = (W.top k).isSome ∧ ∀ id, W.top k = some id → tp k = id :=
  h.2 k (lastTo_lt h2).1 (lastTo_self h2 (by have := (lastTo_lt h2).2; simp [List.getD_eq_getElem?_getD, this]))

/-- what stands at the head of a round of that pass -/
def topRel (W : Wins) (w7 : World) (n : Nat) (v : Value) (wr : World) : Prop :=
  ∃ (k : Nat) (rc : Nat → Bool) (tp : Nat → Int), k ≤ n ∧ v = .int .i64 k ∧ Hid (Inv W k rc tp) ∧ Hid (rowB wr w7.heap.size n 4 (fun j => .bool (rc j))) ∧ Hid (rowB wr (w7.heap.size + 1) n 24 (fun j => .int .u32 (tp j))) ∧ Below w7.heap.size w7 wr
theorem info4 : (Try.prog.info? 4).map (fun i => (i.zero, i.size, i.bytes)) = some (some (.bool false), 1, 1) := by kernel_rfl

end Go.Proofs.Qxb6617836a
