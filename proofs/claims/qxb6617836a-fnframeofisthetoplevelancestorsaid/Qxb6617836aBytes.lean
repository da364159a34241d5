import Derived.Test.Qxb6617836aZz
import Derived.Deep.DeepCutAuto
import Derived.Deep.CutBlock
import Derived.Laws.CopyOwn
namespace Go.Proofs.Qxb6617836a
open Go.ChangeShapes Go.WideShapes Go.ChangeAt Go.RowKit
set_option linter.unusedVariables false

/-- some truth value came back -/
def aBool (e : Ending) : Prop := ∃ b : Bool, e = .returned (.bool b)

set_option maxHeartbeats 2000000 in
theorem bytes8 (a0 a1 a2 a3 a4 : Option Addr) (n0 n1 n2 n3 n4 c0 c1 c2 c3 c4 : Nat) (x y z u : Int) (w : World) :
    Calls Try.prog 8 #[.slice a0 n0 c0, .slice a1 n1 c1, .slice a2 n2 c2, .slice a3 n3 c3, .slice a4 n4 c4, .int .i64 x, .int .u32 y, .int .u32 z, .int .i64 u] w fun e w' => aBool e ∧ w' = w := by
  go_enter Try.func8, Try.ntmps8
  by_cases g0 : n0 ≤ 1048576
  rotate_left
  · go_wp2
    go_ret
    exact ⟨⟨_, rfl⟩, rfl⟩
  by_cases g1 : n1 ≤ 1048576
  rotate_left
  · go_wp2
    go_ret
    exact ⟨⟨_, rfl⟩, rfl⟩
  by_cases h1 : n0 + n1 ≤ 1048576
  rotate_left
  · go_wp2
    go_ret
    exact ⟨⟨_, rfl⟩, rfl⟩
  by_cases g2 : n2 ≤ 1048576
  rotate_left
  · go_wp2
    go_ret
    exact ⟨⟨_, rfl⟩, rfl⟩
  by_cases h2 : n0 + n1 + n2 ≤ 1048576
  rotate_left
  · go_wp2
    go_ret
    exact ⟨⟨_, rfl⟩, rfl⟩
  by_cases g3 : n3 ≤ 1048576
  rotate_left
  · go_wp2
    go_ret
    exact ⟨⟨_, rfl⟩, rfl⟩
  by_cases h3 : n0 + n1 + n2 + n3 ≤ 1048576
  rotate_left
  · go_wp2
    go_ret
    exact ⟨⟨_, rfl⟩, rfl⟩
  by_cases g4 : n4 ≤ 1048576
  rotate_left
  · go_wp2
    go_ret
    exact ⟨⟨_, rfl⟩, rfl⟩
  by_cases h4 : n0 + n1 + n2 + n3 + n4 ≤ 1048576
  · go_wp2
    go_ret
    exact ⟨⟨_, rfl⟩, rfl⟩
  · go_wp2
    go_ret
    exact ⟨⟨_, rfl⟩, rfl⟩

set_option maxHeartbeats 2000000 in
theorem bytes17 (a0 a1 a2 a3 a4 : Option Addr) (n0 n1 n2 n3 n4 c0 c1 c2 c3 c4 : Nat) (x y z u : Int) (w : World) :
    Calls Try.prog 17 #[.slice a0 n0 c0, .slice a1 n1 c1, .slice a2 n2 c2, .slice a3 n3 c3, .slice a4 n4 c4, .int .u32 x, .int .u32 y, .int .u32 z, .int .i64 u] w fun e w' => aBool e ∧ w' = w := by
  go_enter Try.func17, Try.ntmps17
  by_cases g0 : n0 ≤ 1048576
  rotate_left
  · go_wp2
    go_ret
    exact ⟨⟨_, rfl⟩, rfl⟩
  by_cases g1 : n1 ≤ 1048576
  rotate_left
  · go_wp2
    go_ret
    exact ⟨⟨_, rfl⟩, rfl⟩
  by_cases h1 : n0 + n1 ≤ 1048576
  rotate_left
  · go_wp2
    go_ret
    exact ⟨⟨_, rfl⟩, rfl⟩
  by_cases g2 : n2 ≤ 1048576
  rotate_left
  · go_wp2
    go_ret
    exact ⟨⟨_, rfl⟩, rfl⟩
  by_cases h2 : n0 + n1 + n2 ≤ 1048576
  rotate_left
  · go_wp2
    go_ret
    exact ⟨⟨_, rfl⟩, rfl⟩
  by_cases g3 : n3 ≤ 1048576
  rotate_left
  · go_wp2
    go_ret
    exact ⟨⟨_, rfl⟩, rfl⟩
  by_cases h3 : n0 + n1 + n2 + n3 ≤ 1048576
  rotate_left
  · go_wp2
    go_ret
    exact ⟨⟨_, rfl⟩, rfl⟩
  by_cases g4 : n4 ≤ 1048576
  rotate_left
  · go_wp2
    go_ret
    exact ⟨⟨_, rfl⟩, rfl⟩
  by_cases h4 : n0 + n1 + n2 + n3 + n4 ≤ 1048576
  · go_wp2
    go_ret
    exact ⟨⟨_, rfl⟩, rfl⟩
  · go_wp2
    go_ret
    exact ⟨⟨_, rfl⟩, rfl⟩

/-- the numbers zs lie from the address on (as they came in) -/
def SrcAt (k : IntKind) (w : World) (a : Option Addr) (zs : List Int) : Prop :=
  zs = [] ∨ ∃ x, a = some x ∧ ∀ i, i < zs.length → w.cell? (x.add i) = some (.int k (zs.getD i 0))
theorem SrcAt.later {k : IntKind} {w w' : World} {a : Option Addr} {zs : List Int} (h : SrcAt k w a zs) (hb : Below w.heap.size w w') : SrcAt k w' a zs := by
  rcases h with h | ⟨x, e, hc⟩
  · exact Or.inl h
  · exact Or.inr ⟨x, e, fun i hi => cell_later hb (hc i hi)⟩
theorem SrcAt.none {k : IntKind} {w : World} {zs : List Int} (h : SrcAt k w none zs) (w' : World) : IntsAt k w' none zs := by
  rcases h with h | ⟨x, e, hc⟩
  · exact Or.inl h
  · cases e
/-- the numbers' values -/
def vals (k : IntKind) (zs : List Int) : List Value := zs.map fun z => .int k z
theorem vals_len (k : IntKind) (zs : List Int) : (vals k zs).length = zs.length := by simp [vals]
theorem info24 : (Try.prog.info? 24).map (fun i => (i.zero, i.size, i.bytes)) = some (some (.int .u32 0), 1, 4) := by kernel_rfl
theorem info3 : (Try.prog.info? 3).map (fun i => (i.zero, i.size, i.bytes)) = some (some (.int .i64 0), 1, 8) := by kernel_rfl
theorem size24 : (Try.prog.info? 24).map (·.size) = some 1 := by kernel_rfl
theorem size3 : (Try.prog.info? 3).map (·.size) = some 1 := by kernel_rfl
theorem heap_new (w : World) (o : Obj) : (w.alloc o).heap[w.heap.size]? = some o := heap_alloc_last w o
theorem made_len (z : Value) (n : Nat) : (madeCells #[z] n).toList.length = n := by simp [madeCells]
theorem src_cells {k : IntKind} {w : World} {ad : Addr} {zs : List Int} {cs : List Value} (h : SrcAt k w (some ad) zs) (hc : cs = vals k zs) {j : Nat} {v : Value} (hj : cs[j]? = some v) : w.cell? (ad.add j) = some v := by
  subst hc
  unfold vals at hj
  rw [List.getElem?_map, Option.map_eq_some_iff] at hj
  obtain ⟨s, hs, rfl⟩ := hj
  obtain ⟨hl, rfl⟩ := List.getElem?_eq_some_iff.1 hs
  rcases h with rfl | ⟨x, e, hc⟩
  · simp at hl
  · obtain rfl := Option.some.inj e
    rw [hc j hl]
    simp [List.getD_eq_getElem?_getD, hl]
theorem one_cells {k : IntKind} {zs : List Int} {cs : List Value} (hc : cs = vals k zs) : ∀ v ∈ cs, v.oneCell' = true := by
  subst hc
  intro v hv
  unfold vals at hv
  obtain ⟨s, _, rfl⟩ := List.mem_map.1 hv
  rfl
theorem row_ints {k : IntKind} {w : World} {B : Nat} {zs : List Int} {cs cur : List Value} {t : TypeId} (h : w.heap[B]? = some (.cells (splice cur 0 cs).toArray t (0, 0))) (hc : cs = vals k zs) (hl : cs.length = cur.length) :
    IntsAt k w (some ⟨B, 0, none⟩) zs := by
  have e : splice cur 0 cs = cs := by simp [splice, hl]
  rw [e] at h
  subst hc
  refine Or.inr ⟨B, 0, rfl, fun i hi => ?_⟩
  simp [World.cell?, h, hi, vals, List.getD_eq_getElem?_getD]
/-- what stands behind a copy: some slice of the n numbers; nothing that was there has turned -/
def copied (k : IntKind) (w : World) (zs : List Int) (n : Nat) (v : Value) (wr : World) : Prop := ∃ va cap, v = .slice va n cap ∧ IntsAt k wr va zs ∧ Below w.heap.size w wr
end Go.Proofs.Qxb6617836a
