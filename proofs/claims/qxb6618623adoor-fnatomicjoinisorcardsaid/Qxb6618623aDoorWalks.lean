import Derived.Test.Qxb6618623aDoorRows
import Derived.Test.Qxb6618623aDoorShelf
import Derived.Test.Qxb6618623aDoorPlain
import Derived.WalkKit
import Derived.WalkSpells
import Derived.WalkLawsBesides
import Derived.ProofKit
import Derived.Lib.LaidU8
import Derived.Deep.QuietTactic
import Derived.BigQuiet
import Derived.Deep.RegionHeld3
import Derived.Outline
namespace Go.Proofs.Qxb6618623aDoor
open Go.ChangeShapes Go.WideShapes Go.ChangeAt Go.RowKit
set_option linter.unusedVariables false

theorem hide {p : Prop} (h : p) : Hid p := h
theorem bthen {a b c : World} (h : Below a.heap.size a b) (k : Below b.heap.size b c) : Below a.heap.size a c := h.trans (k.mono h.size)

/-- the two tables stand as the text lays them -/
def Tabs (w : World) : Prop := Lib.TabIs Tryd.prog w "strings.asciiSpace" .u8 Lib.asciiSpaceTab ∧ Lib.WhiteTab 1 w
theorem ascii0 : Tryd.prog.globalNamed "strings.asciiSpace" = some 0 := by kernel_rfl
theorem Tabs.below {w w' : World} (h : Tabs w) (hb : Below w.heap.size w w') : Tabs w' := by
  refine ⟨?_, WhiteTab_below h.2 hb⟩
  have h1 := h.1
  unfold Lib.TabIs World.var? at h1 ⊢
  rw [ascii0] at h1 ⊢
  simp only [Option.bind_some] at h1 ⊢
  have hlt : 0 < w.heap.size := by
    rcases Nat.lt_or_ge 0 w.heap.size with h' | h'
    · exact h'
    · rw [Array.getElem?_eq_none h'] at h1; cases h1
  rw [hb.block 0 hlt]
  exact h1

theorem Tabs.cell {w : World} (h : Tabs w) : w.cell? ⟨0, 32, none⟩ = some (.int .u8 1) := by
  have := h.1.cell ascii0 32 (by rw [Lib.asciiSpaceTab_length]; omega)
  rw [this]
  rfl
/-- is the string a list of qualifiers with _Atomic among them? -/
def atomicB (s : ByteArray) : Bool := atomicL s.data.toList

theorem owns_len {w : World} {base A n : Nat} {xs : List Value} (h : w.ownsRow base 9 1 (.slice (some ⟨A, 0, none⟩) n n) n xs) : n ≤ 9223372036854775807 := by
  rcases h.2 with ⟨e, _⟩ | ⟨g, cap, cur, e, _, _, h1, h2, _⟩
  · cases e
  · unfold maxLen at h2; omega
theorem contains_any (A base : Nat) (l : List (List UInt8)) (x : ByteArray) (w : World) (hO : w.ownsRow base 9 1 (.slice (some ⟨A, 0, none⟩) l.length l.length) l.length (l.map fun x => Value.string ⟨x.toArray⟩)) (hn : l.length ≤ 9223372036854775807) :
    Calls Tryd.prog 7 #[.slice (some ⟨A, 0, none⟩) l.length l.length, .string x] w fun e w' => e = .returned (.bool (Lib.containsS (l.map fun x => (⟨x.toArray⟩ : ByteArray)) x)) ∧ w' = w := by
  have h := Tryd.slices_Contains_string A 0 l.length l.length (l.map fun x => (⟨x.toArray⟩ : ByteArray)) x w (by simp) hn (fun j hj => by
    have hj' : j < l.length := by simpa using hj
    have := hO.cells (g := A) rfl j (.string ⟨l[j].toArray⟩) (by simp [hj'])
    rw [Addr.add_lit] at this
    rw [this]
    simp [List.getD_eq_getElem?_getD, hj'])
  rw [List.take_of_length_le (by simp)] at h
  exact h

set_option maxHeartbeats 1000000 in
theorem atomic_any (b : Nat) (s : ByteArray) (w : World) (hs : s.size ≤ 1000000) (hc : w.cell? ⟨b, 2, none⟩ = some (.string s)) (hT : Tabs w) :
    Calls Tryd.prog 6 #[.pointer (some ⟨b, 0, none⟩)] w fun e w' => e = .returned (.bool (atomicB s)) ∧ Below w.heap.size w w' := by
  have HC := hide (Tryd.strings_Fields_any s w (by omega) hT.1 hT.2)
  have HS := hide hs
  clear hT hs
  go_enter Tryd.func6, Tryd.ntmps6
  go_wp2_with fail
  refine HC.out.mono ?_
  rintro e w' ⟨A, rfl, hA, hO, hb⟩
  have HC2 := hide (contains_any A w.heap.size (Lib.fieldsD s.data.toList) ⟨#[95, 65, 116, 111, 109, 105, 99]⟩ w' hO (owns_len hO))
  have HB := hide hb
  clear HC hA hO hb
  generalize hn : (Lib.fieldsD s.data.toList).length = n at *
  clear hn
  go_wp2_with fail
  refine HC2.out.mono ?_
  rintro e w2 ⟨rfl, rfl⟩
  clear HC2
  go_wp2
  go_ret
  exact ⟨rfl, HB.out⟩
set_option maxHeartbeats 1000000 in
theorem of_any (name s : ByteArray) (w : World) (hs : s.size ≤ 1000000) (hT : Tabs w) :
    Calls Tryd.prog 5 #[.string name, .string s] w fun e w' => e = .returned (.bool (atomicB s)) ∧ Below w.heap.size w w' := by
  have HT := hide hT
  clear hT
  go_enter Tryd.func5, Tryd.ntmps5
  go_wp2_with fail
  refine (atomic_any w.heap.size s _ hs ?_ (HT.out.below ((Below.refl _ _).alloc (Nat.le_refl _) _))).mono ?_
  · simp [go_sem]
  rintro e w1 ⟨rfl, hb⟩
  replace hb := bthen ((Below.refl w.heap.size w).alloc (Nat.le_refl _) _) hb
  go_wp2
  go_ret
  exact ⟨rfl, hb⟩

/-- some truth value came back -/
def aBool (e : Ending) : Prop := ∃ b : Bool, e = .returned (.bool b)
set_option maxHeartbeats 1000000 in
theorem bytes_any (a b c : ByteArray) (k : Int) (w : World) :
    Calls Tryd.prog 4 #[.string a, .string b, .string c, .int .i64 k] w fun e w' => aBool e ∧ w' = w := by
  go_enter Tryd.func4, Tryd.ntmps4
  by_cases g0 : a.size ≤ 1048576
  rotate_left
  · go_wp2
    go_ret
    exact ⟨⟨_, rfl⟩, rfl⟩
  by_cases g1 : b.size ≤ 1048576
  rotate_left
  · go_wp2
    go_ret
    exact ⟨⟨_, rfl⟩, rfl⟩
  by_cases h1 : a.size + b.size ≤ 1048576
  rotate_left
  · go_wp2
    go_ret
    exact ⟨⟨_, rfl⟩, rfl⟩
  by_cases g2 : c.size ≤ 1048576
  rotate_left
  · go_wp2
    go_ret
    exact ⟨⟨_, rfl⟩, rfl⟩
  by_cases h2 : a.size + b.size + c.size ≤ 1048576
  · go_wp2
    go_ret
    exact ⟨⟨_, rfl⟩, rfl⟩
  · go_wp2
    go_ret
    exact ⟨⟨_, rfl⟩, rfl⟩

theorem join_size (q1 q2 : ByteArray) (g1 : q1.size ≤ 65536) (g2 : q2.size ≤ 65536) : (q1 ++ ⟨#[32]⟩ ++ q2).size ≤ 1000000 := by
  have h : (⟨#[32]⟩ : ByteArray).size = 1 := rfl
  rw [ByteArray.size_append, ByteArray.size_append, h]; omega
theorem join_atomic (q1 q2 : ByteArray) : atomicB (q1 ++ ⟨#[32]⟩ ++ q2) = (atomicB q1 || atomicB q2) := by
  unfold atomicB
  rw [← atomic_join]
  congr 1
  simp
theorem of_join (name q1 q2 : ByteArray) (g1 : q1.size ≤ 65536) (g2 : q2.size ≤ 65536) (w : World) (hT : Tabs w) :
    Calls Tryd.prog 5 #[.string name, .string (q1 ++ ⟨#[32]⟩ ++ q2)] w fun e w' => e = .returned (.bool (atomicB q1 || atomicB q2)) ∧ Below w.heap.size w w' := by
  rw [← join_atomic]
  exact of_any name _ w (join_size q1 q2 g1 g2) hT

theorem put_atomic (q1 : ByteArray) (j : Nat) : atomicB (q1.extract 0 j ++ ⟨#[32, 95, 65, 116, 111, 109, 105, 99, 32]⟩ ++ q1.extract j q1.size) = true := by
  unfold atomicB
  rw [← atomic_put (q1.extract 0 j).data.toList (q1.extract j q1.size).data.toList]
  congr 1
  rw [ByteArray.data_append, ByteArray.data_append, Array.toList_append, Array.toList_append, List.append_assoc]
  rfl
theorem of_put (name q1 : ByteArray) (j : Nat) (g1 : q1.size ≤ 65536) (k1 : j ≤ q1.size) (w : World) (hT : Tabs w) :
    Calls Tryd.prog 5 #[.string name, .string (q1.extract 0 j ++ ⟨#[32, 95, 65, 116, 111, 109, 105, 99, 32]⟩ ++ q1.extract j q1.size)] w fun e w' => e = .returned (.bool true) ∧ w'.cell? ⟨0, 32, none⟩ = some (.int .u8 1) ∧ Below w.heap.size w w' := by
  have hs : (q1.extract 0 j ++ ⟨#[32, 95, 65, 116, 111, 109, 105, 99, 32]⟩ ++ q1.extract j q1.size).size ≤ 1000000 := by
    have h : (⟨#[32, 95, 65, 116, 111, 109, 105, 99, 32]⟩ : ByteArray).size = 9 := rfl
    rw [ByteArray.size_append, ByteArray.size_append, h, ByteArray.size_extract, ByteArray.size_extract]; omega
  refine (of_any name _ w hs hT).mono ?_
  rintro e w' ⟨rfl, hb⟩
  exact ⟨by rw [put_atomic], (hT.below hb).cell, hb⟩

set_option maxHeartbeats 1000000 in
theorem law_any (name q1 q2 : ByteArray) (k : Int) (w : World) (hT : Tabs w) :
    Calls Tryd.prog 3 #[.string name, .string q1, .string q2, .int .i64 k] w fun e w' => e = .returned (.bool true) ∧ Below w.heap.size w w' := by
  have HZ := hide (bytes_any name q1 q2 k w)
  have HT := hide hT
  clear hT
  go_enter Tryd.func3, Tryd.ntmps3
  go_wp2_with fail
  refine HZ.out.mono ?_
  rintro e w' ⟨⟨b, rfl⟩, rfl⟩
  clear HZ
  cases b
  · go_wp2
    go_ret
    exact ⟨rfl, Below.refl _ _⟩
  by_cases g0 : name.size ≤ 65536
  rotate_left
  · go_wp2
    go_ret
    exact ⟨rfl, Below.refl _ _⟩
  by_cases g1 : q1.size ≤ 65536
  rotate_left
  · go_wp2
    go_ret
    exact ⟨rfl, Below.refl _ _⟩
  by_cases g2 : q2.size ≤ 65536
  rotate_left
  · go_wp2
    go_ret
    exact ⟨rfl, Below.refl _ _⟩
  by_cases k0 : k < 0
  · go_wp2
    go_ret
    exact ⟨rfl, Below.refl _ _⟩
  obtain ⟨j, rfl⟩ : ∃ j : Nat, k = j := ⟨k.toNat, by omega⟩
  by_cases k1 : j ≤ q1.size
  rotate_left
  · go_wp2
    go_ret
    exact ⟨rfl, Below.refl _ _⟩
  go_wp2_with fail
  refine (of_any name q1 w' (by omega) HT.out).mono ?_
  rintro e w1 ⟨rfl, hb1⟩
  replace HT := hide (HT.out.below hb1)
  go_wp2_with fail
  refine (of_any name q2 w1 (by omega) HT.out).mono ?_
  rintro e w2 ⟨rfl, hb2⟩
  replace HT := hide (HT.out.below hb2)
  replace hb2 := bthen hb1 hb2
  clear hb1
  have HJ := hide (of_join name q1 q2 g1 g2 w2 HT.out)
  generalize atomicB q1 = t1 at *
  generalize atomicB q2 = t2 at *
  go_wp2_with fail
  refine HJ.out.mono ?_
  rintro e w3 ⟨rfl, hb3⟩
  replace HT := hide (HT.out.below hb3)
  replace hb3 := bthen hb2 hb3
  clear hb2 HJ
  go_wp2_with fail
  have k2 : (j : Int) ≤ (q1.size : Int) := by omega
  have hcell : w3.cell? ⟨0, 32, none⟩ = some (.int .u8 1) := HT.out.cell
  have n4 : ¬ (9223372036854775807 < j + 9) := by omega
  have n8 : ¬ (9223372036854775807 < j + 9 + (q1.size - j)) := by omega
  have HP := hide (of_put name q1 j g1 k1 w3.drew (HT.out.below (Below.refl _ _).drew))
  go_region_held3 (fun w' => w'.cell? ⟨0, 32, none⟩ = some (.int .u8 1)) (simp [go_sem, *]) ((go_at_call 5; refine HP.out.mono ?_; rintro e w4 ⟨rfl, hc4, hb4⟩))
  have hb5 := bthen hb3.drew hb4
  clear hb4 hb3 HP HT
  cases t1 <;> cases t2
  all_goals
    go_wp2
    go_ret
    exact ⟨rfl, hb5⟩
end Go.Proofs.Qxb6618623aDoor
