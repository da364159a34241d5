import Derived.Test.Qxb6617004aFmtErr
import Derived.Laws.EntriesVeiled
import Derived.Deep.QuietTactic
import Derived.BigQuiet
namespace Go.Proofs.Qxb6617004aFmt
open Go.ChangeShapes Go.WideShapes Go.ChangeAt Go.RowKit
open Go.Extern.Stop Go.Stop Go.Extern
set_option linter.unusedVariables false

/-- a node of member id whose entry checker is f -/
def nodeCells (id : ByteArray) (f : Value) : Array Value :=
  #[.string id, .slice none 0 0, .slice none 0 0, .slice none 0 0, .slice none 0 0, .slice none 0 0, .slice none 0 0, .int .u64 0, .string ByteArray.empty, .slice none 0 0, .string ByteArray.empty, .slice none 0 0,
    .int .i64 0, .int .i64 0, .pointer none, .string ByteArray.empty, .int .u64 0, .string ByteArray.empty, .int .u64 0, .string ByteArray.empty, .bool false, .slice none 0 0,
    .int .u64 0, .int .u64 0, .int .u64 0, .int .u64 0, .int .u64 0, .slice none 0 0, .slice none 0 0, .slice none 0 0, .nilFunc, .int .u64 0, .int .u64 0, .slice none 0 0, .slice none 0 0, .slice none 0 0, .int .u64 0,
    f, .nilFunc, .int .i64 0, .int .i64 0, .int .i64 0, .map none, .map none, .map none, .int .u64 0, .slice none 0 0, .int .u64 0, .string ByteArray.empty, .int .u64 0, .int .u64 0, .slice none 0 0, .slice none 0 0]
theorem build67 (id : ByteArray) (k : Nat) (w : World) : (Instr.build 67 #[(0, .string id), (21, .func (.func k) #[] #[])]).run Tryf.prog w = .ok (.agg (nodeCells id (.func (.func k) #[] #[]))) w := by kernel_rfl
theorem node0 (id : ByteArray) (f : Value) : (nodeCells id f)[0]? = some (.string id) := rfl
theorem node37 (id : ByteArray) (f : Value) : (nodeCells id f)[37]? = some f := rfl
theorem node38 (id : ByteArray) (f : Value) : (nodeCells id f)[38]? = some .nilFunc := rfl

/-- a message: its type, its sender, its term, its entries -/
def msgCells (mt fr : ByteArray) (t : Int) (a : Option Addr) (n c : Nat) : Array Value :=
  #[.string mt, .string fr, .string ByteArray.empty, .string ByteArray.empty, .int .u64 t, .int .u64 0, .int .u64 0, .slice a n c, .int .u64 0, .bool false, .int .u64 0, .int .u64 0, .int .u64 0, .slice none 0 0, .bool false, .slice none 0 0, .slice none 0 0]

theorem msg_size (mt fr : ByteArray) (t : Int) (a : Option Addr) (n c : Nat) : (msgCells mt fr t a n c).size = 17 := rfl
theorem msg0 (mt fr : ByteArray) (t : Int) (a : Option Addr) (n c : Nat) : (msgCells mt fr t a n c)[0]? = some (.string mt) := rfl
theorem msg1 (mt fr : ByteArray) (t : Int) (a : Option Addr) (n c : Nat) : (msgCells mt fr t a n c)[1]? = some (.string fr) := rfl
theorem msg4 (mt fr : ByteArray) (t : Int) (a : Option Addr) (n c : Nat) : (msgCells mt fr t a n c)[4]? = some (.int .u64 t) := rfl
theorem msg7 (mt fr : ByteArray) (t : Int) (a : Option Addr) (n c : Nat) : (msgCells mt fr t a n c)[7]? = some (.slice a n c) := rfl
theorem build35 (mt fr : ByteArray) (t : Int) (a : Option Addr) (n c : Nat) (w : World) : (Instr.build 35 #[(0, .string mt), (1, .string fr), (4, .int .u64 t), (7, .slice a n c)]).run Tryf.prog w = .ok (.agg (msgCells mt fr t a n c)) w := by kernel_rfl
theorem Tryf.size35 : (Tryf.prog.info? 35).map (·.size) = some 17 := by kernel_rfl

/-- a struct's literal, by the equation of its run -/
theorem wpList_build {P : Program} {w : World} {ops : Array Oper} {rest : List Oper} {o : Oper} {a : Act} {Q : Exit → Act → World → Prop} (hg : o.guard = none) (t : TypeId) (parts : List (Nat × Operand)) (hop : o.op = .build t parts.toArray)
    (vs : List (Nat × Value)) (hvs : parts.map (fun p => (p.1, a.eval p.2)) = vs) (r : Value) (hrun : (Instr.build t vs.toArray).run P w = .ok r w) (h : wpList P ops Q rest (a.put o.dst r) w) : wpList P ops Q (o :: rest) a w := by
  refine wpList_plain hg fun K hK => ?_
  subst hvs
  rw [← List.map_toArray] at hrun
  unfold Oper.wp
  simp [execOp, hop, Result.andThen]
  simp at hrun
  rw [hrun]
  exact hK _ _ h

theorem neq_nilFunc (w : World) : (binOp .neq 47 .nilFunc .nilFunc).run Tryf.prog w = .ok (.bool false) w := by kernel_rfl
theorem neq_func (k : Nat) (w : World) : (binOp .neq 47 (.func (.func k) #[] #[]) .nilFunc).run Tryf.prog w = .ok (.bool true) w := by kernel_rfl

/-- the node's cells that are read -/
def NodeAt (w : World) (N : Nat) (id : ByteArray) (k : Nat) : Prop :=
  w.cell? ⟨N, 0, none⟩ = some (.string id) ∧ w.cell? ⟨N, 37, none⟩ = some (.func (.func k) #[] #[]) ∧ w.cell? ⟨N, 38, none⟩ = some .nilFunc

set_option maxRecDepth 100000 in
set_option maxHeartbeats 1000000 in
theorem check_other (k N : Nat) (id mt fr : ByteArray) (t : Int) (a : Option Addr) (n c : Nat) (w : World) (hN : NodeAt w N id k) (hm : (mt.toList == [97, 112, 112, 101, 110, 100]) = false) :
    Calls Tryf.prog 12 #[.pointer (some ⟨N, 0, none⟩), .agg (msgCells mt fr t a n c)] w fun e w' => e = .returned .nilIface ∧ Below w.heap.size w w' := by
  obtain ⟨h0, h37, h38⟩ := hN
  have m0 := msg0 mt fr t a n c
  cases hsn : (mt.toList == [115, 110, 97, 112, 115, 104, 111, 116])
  · go_enter Tryf.func12, Tryf.ntmps12
    go_wp2
    go_quiet (fail)
    go_wp2
    go_ret
    exact ⟨rfl, below_drewN ((Below.refl _ _).alloc (Nat.le_refl _) _) _⟩
  · have hlt : N < w.heap.size := World.block_lt_of_cell? w ⟨N, 0, none⟩ h0
    have hnf := neq_nilFunc
    go_enter Tryf.func12, Tryf.ntmps12
    go_wp2
    go_quiet (fail)
    go_wp2
    go_ret
    exact ⟨rfl, below_drewN ((Below.refl _ _).alloc (Nat.le_refl _) _) _⟩
end Go.Proofs.Qxb6617004aFmt
