import Derived.Test.Qxb6617836aOrder
import Derived.Deep.LoopGhost
import Derived.Laws.Rows
import Derived.Laws.Tables
import Derived.Deep.WholeRow
namespace Go.Proofs.Qxb6617836a
open Go.ChangeShapes Go.WideShapes Go.ChangeAt Go.RowKit
set_option linter.unusedVariables false

/-- a window as a struct value -/
def win (id p r pid : Int) : Value := .agg #[.int .u32 id, .int .u32 p, .int .u32 r, .int .i64 pid]
/-- what the map byID holds -/
def winMap (W : Wins) (k : Nat) (x : Int) : Option Value := (lastTo W.keys k x).map fun j => win (W.ids.getD j 0) (W.parents.getD j 0) (W.roots.getD j 0) (W.pids.getD j 0)
/-- the answer of frameOf -/
def frameVal (o : Option Int) : Value := .tuple #[.int .u32 (o.getD 0), .bool o.isSome]

theorem zero47 (w : World) : (zeroValue 47).run Try.prog w = .ok (win 0 0 0 0) w := by kernel_rfl

/-- the block of the window in hand -/
def boxed (w : World) (B : Nat) (id p r pid : Int) : Prop := w.heap[B]? = some (.cells #[.int .u32 id, .int .u32 p, .int .u32 r, .int .i64 pid] 47 (0, 0))
theorem boxed.cells {w : World} {B : Nat} {id p r pid : Int} (h : boxed w B id p r pid) : w.cell? ⟨B, 0, none⟩ = some (.int .u32 id) ∧ w.cell? ⟨B, 1, none⟩ = some (.int .u32 p) ∧ w.cell? ⟨B, 2, none⟩ = some (.int .u32 r) ∧ w.cell? ⟨B, 3, none⟩ = some (.int .i64 pid) := by
  unfold boxed at h
  simp [World.cell?, h]
theorem new_box (w : World) (B : Nat) (id p r pid : Int) (h : boxed w B id p r pid) : (w.cell? ⟨B, 0, none⟩ = some (.int .u32 id) ∧ w.cell? ⟨B, 1, none⟩ = some (.int .u32 p) ∧ w.cell? ⟨B, 2, none⟩ = some (.int .u32 r) ∧ w.cell? ⟨B, 3, none⟩ = some (.int .i64 pid)) ∧
    w.frozen? ⟨B, 0, none⟩ = false ∧ w.frozen? ⟨B, 1, none⟩ = false ∧ w.frozen? ⟨B, 2, none⟩ = false ∧ w.frozen? ⟨B, 3, none⟩ = false := by
  refine ⟨h.cells, ?_⟩
  unfold boxed at h
  simp [World.frozen?, h]
/-- what stands at the head of a round of frameOf's loop -/
def loopRel (W : Wins) (w : World) (R : Option Int) (g : Nat) (wr : World) : Prop :=
  ∃ id p r pid : Int, boxed wr w.heap.size id p r pid ∧ W.low g p r ∧ R = W.up (g + 1) id p r ∧ (Lit.int .u32 p).wf = true ∧ Below w.heap.size w wr
theorem size47 : (Try.prog.info? 47).map (·.size) = some 4 := by kernel_rfl
theorem new_other {w : World} {g : Nat} {o x : Obj} (h : w.heap[g]? = some x) : (w.alloc o).heap[g]? = some x := by
  have hlt : g < w.heap.size := (Array.getElem?_eq_some_iff.1 h).1
  simp only [World.alloc, Array.getElem?_push]
  rw [if_neg (by omega)]
  exact h
/-- a whole struct into the block that was made last -/
theorem wpList_store_new {P : Program} {ops : Array Oper} {rest : List Oper} {o : Oper} {a : Act} {w : World} {Q : Exit → Act → World → Prop} (hgd : o.guard = none) (ty : TypeId) (x y : Operand) (ho : o.op = .store ty x y)
    (cells : Array Value) (hx : a.eval x = .pointer (some ⟨w.heap.size, 0, none⟩)) (hy : a.eval y = .agg cells) (t : TypeId) (old : Array Value) (hi : (P.info? ty).map (·.size) = some cells.size)
    (hold : old.size = cells.size) (h1 : cells.all (·.oneCell') = true)
    (h : wpList P ops Q rest (a.put o.dst undef) (w.alloc (.cells cells t))) : wpList P ops Q (o :: rest) a (w.alloc (.cells old t)) := by
  refine wpList_store_row hgd ty x y ho w.heap.size cells hx hy t old (heap_alloc_last w _) hi hold h1 ?_
  rw [World.setRow_alloc_new]
  exact h
/-- a whole struct into a block that stands below the one made last -/
theorem wpList_store_old {P : Program} {ops : Array Oper} {rest : List Oper} {o : Oper} {a : Act} {w : World} {Q : Exit → Act → World → Prop} (hgd : o.guard = none) (ty : TypeId) (x y : Operand) (ho : o.op = .store ty x y)
    (g : Nat) (cells : Array Value) (hx : a.eval x = .pointer (some ⟨g, 0, none⟩)) (hy : a.eval y = .agg cells)
    (t : TypeId) (old : Array Value) (hg : w.heap[g]? = some (.cells old t (0, 0))) (hi : (P.info? ty).map (·.size) = some cells.size)
    (hold : old.size = cells.size) (h1 : cells.all (·.oneCell') = true) (w' : World) (hw : w' = w.setRow g cells)
    (h : wpList P ops Q rest (a.put o.dst undef) w') : wpList P ops Q (o :: rest) a w := by
  subst hw
  exact wpList_store_row hgd ty x y ho g cells hx hy t old hg hi hold h1 h

set_option maxHeartbeats 2000000 in
theorem frame_any (W : Wins) (b : Nat) (id p r pid : Int) (w : World) (ho : W.ordered) (hm : MapF w b W.keys.length (winMap W W.keys.length)) (fp : Fits W.parents) (hp : (Lit.int .u32 p).wf = true) :
    Calls Try.prog 18 #[.map (some b), .agg #[.int .u32 id, .int .u32 p, .int .u32 r, .int .i64 pid]] w fun e w' => e = .returned (frameVal (W.frame id p r)) ∧ Below w.heap.size w w' := by
  have HO := hide ho
  have HM := hide hm
  have FP := hide fp
  have HPw := hide hp
  clear ho hm fp hp
  go_enter Try.func18, Try.ntmps18
  by_cases c : p = r
  · subst c
    go_wp2
    go_ret2
    refine ⟨by unfold Wins.frame; rw [if_pos rfl]; rfl, ?_⟩
    exact (Below.refl _ _).alloc (Nat.le_refl _) _
  · have hne : (p == r) = false := by simp [c]
    have hres : W.frame id p r = W.up (W.keys.length + 1) id p r := by unfold Wins.frame; rw [if_neg c]
    rw [hres]
    obtain ⟨R, hR⟩ : ∃ R, R = W.up (W.keys.length + 1) id p r := ⟨_, rfl⟩
    rw [← hR]
    have HR := hide hR
    clear hR hres
    go_wp2
    go_loopg [] (W.keys.length) (fun g wr => loopRel W w R g wr)
    case atStart =>
      exact ⟨id, p, r, pid, heap_alloc_last w _, W.low_n p r, HR.out, HPw.out, (Below.refl _ _).alloc (Nat.le_refl _) _⟩
    case round =>
      obtain ⟨id, p, r, pid, hbx, hl, hu, hwp, hb⟩ := hrel
      obtain ⟨h0, h1, h2, h3⟩ := hbx.cells
      have HBX := hide hbx
      have HL := hide hl
      have HU := hide hu
      clear hl hu HR HPw hbx
      by_cases c : p = r
      · subst c
        have HRs : Hid (R = some id) := by
          have h := HU.out
          unfold Wins.up at h
          rw [if_pos rfl] at h
          exact h
        go_wp2
        go_ret2
        exact ⟨by rw [HRs.out]; rfl, hb⟩
      · have hne : (p != r) = true := by simp [c]
        cases hat : W.at p with
        | none =>
          have hlk := (HM.out.below hb).look Try.underlying44 (zero47 wr) hwp
          rw [show winMap W W.keys.length p = none from by unfold winMap; unfold Wins.at at hat; rw [hat]; rfl] at hlk
          simp only [Option.getD_none, Option.isSome_none, win] at hlk
          have HRs : Hid (R = none) := by
            have h := HU.out
            unfold Wins.up at h
            rw [if_neg c, hat] at h
            exact h
          clear hat
          go_wp2
          go_ret2
          exact ⟨by rw [HRs.out]; rfl, hb.alloc hb.size _⟩
        | some j =>
          have hlk := (HM.out.below hb).look Try.underlying44 (zero47 wr) hwp
          rw [show winMap W W.keys.length p = some (win (W.ids.getD j 0) (W.parents.getD j 0) (W.roots.getD j 0) (W.pids.getD j 0)) from by unfold winMap; unfold Wins.at at hat; rw [hat]; rfl] at hlk
          simp only [Option.getD_some, Option.isSome_some, win] at hlk
          have HJ := hide (HL.out c j hat)
          have HLj := hide (W.low_next HO.out hat)
          have HUj : Hid (R = W.up (j + 1) (W.ids.getD j 0) (W.parents.getD j 0) (W.roots.getD j 0)) := by
            have h := HU.out
            unfold Wins.up at h
            rw [if_neg c, hat] at h
            have hj := HJ.out
            obtain ⟨g', rfl⟩ : ∃ g', gk = g' + 1 := ⟨gk - 1, by omega⟩
            exact h.trans (W.up_stable HO.out j g' _ _ _ (by omega) (W.low_next HO.out hat)).symm
          have hwp' := FP.out.at j
          have HWp := hide hwp'
          clear hat hwp' hwp
          generalize W.ids.getD j 0 = id1 at *
          generalize W.parents.getD j 0 = p1 at *
          generalize W.roots.getD j 0 = r1 at *
          generalize W.pids.getD j 0 = q1 at *
          have HB2 := hide (new_box (wr.alloc (.cells #[.int .u32 id1, .int .u32 p1, .int .u32 r1, .int .i64 q1] 47)) w.heap.size id p r pid (new_other HBX.out))
          obtain ⟨⟨k0, k1, k2, k3⟩, f0, f1, f2, f3⟩ := HB2.out
          go_wp2
          go_roundg j
          case measure => exact HJ.out
          case rel =>
            refine ⟨id1, p1, r1, q1, ?_, HLj.out, HUj.out, HWp.out, ?_⟩
            · have g0 := new_other (o := .cells #[.int .u32 id1, .int .u32 p1, .int .u32 r1, .int .i64 q1] 47) HBX.out
              have g1 := heap_setCell_same _ _ 0 _ _ (.int .u32 id1) g0
              have g2 := heap_setCell_same _ _ 1 _ _ (.int .u32 p1) g1
              have g3 := heap_setCell_same _ _ 2 _ _ (.int .u32 r1) g2
              have g4 := heap_setCell_same _ _ 3 _ _ (.int .i64 q1) g3
              exact g4
            · exact ((((hb.alloc hb.size _).setCell (Nat.le_refl _) _).setCell (Nat.le_refl _) _).setCell (Nat.le_refl _) _).setCell (Nat.le_refl _) _

set_option maxHeartbeats 2000000 in
theorem frame_nil (id p r pid : Int) (w : World) (hp : (Lit.int .u32 p).wf = true) :
    Calls Try.prog 18 #[.map none, .agg #[.int .u32 id, .int .u32 p, .int .u32 r, .int .i64 pid]] w fun e w' => e = .returned (frameVal none) ∧ Below w.heap.size w w' := by
  go_enter Try.func18, Try.ntmps18
  by_cases c : p = r
  · subst c
    go_wp2
    go_ret2
    exact ⟨rfl, (Below.refl _ _).alloc (Nat.le_refl _) _⟩
  · have hne : (p == r) = false := by simp [c]
    have hne2 : (p != r) = true := by simp [c]
    go_wp2
    go_loopg [] 0 (fun g wr => boxed wr w.heap.size id p r pid ∧ Below w.heap.size w wr)
    case atStart => exact ⟨heap_alloc_last w _, (Below.refl _ _).alloc (Nat.le_refl _) _⟩
    case round =>
      obtain ⟨hbx, hb⟩ := hrel
      obtain ⟨h0, h1, h2, h3⟩ := hbx.cells
      have hlk : (Instr.lookup 44 (.map none) (.int .u32 p) true).run Try.prog wr = .ok (.tuple #[.agg #[.int .u32 0, .int .u32 0, .int .u32 0, .int .i64 0], .bool false]) wr :=
        Go.Maps.look_nil true keyLaw Try.underlying44 (zero47 wr) (Go.Maps.keyOf_int_mk Try.underlying24 hp)
      clear hbx
      go_wp2
      go_ret2
      exact ⟨rfl, hb.alloc hb.size _⟩
end Go.Proofs.Qxb6617836a
