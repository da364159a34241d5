import Derived.Test.Qxb6617004aFmtTo
import Derived.Stop.CallBack
import Derived.Stop.IfaceNil
import GoSem.ClaimData
namespace Go.Proofs.Qxb6617004aFmt
open Go.ChangeShapes Go.WideShapes Go.ChangeAt Go.RowKit
open Go.Extern.Stop Go.Stop Go.Extern
set_option linter.unusedVariables false

theorem Tryf.call16 (args : Array Value) (w : World) : (callFunc 16 args).run Tryf.prog w = ((FmtStop.errorf #[9, 75] #[38] args).run Tryf.prog w).andThen fun v w' => .ok (.value v) w' :=
  run_callFunc_extern Tryf.func16 (by kernel_rfl) (by kernel_rfl) (by kernel_rfl) (by kernel_rfl) args w
theorem Tryf.guard (name : String) (w : World) : (FmtStop.guard name).run Tryf.prog w = .ok () w := by kernel_rfl

/-- the format: raft: member .. -/
def fmtText : ByteArray := ⟨#[114, 97, 102, 116, 58, 32, 109, 101, 109, 98, 101, 114, 32, 37, 115, 58, 32, 101, 110, 116, 114, 121, 32, 37, 100, 32, 111, 102, 32, 116, 104, 101, 32, 97, 112, 112, 101, 110, 100, 32, 102, 114, 111, 109, 32, 37, 115, 32, 105, 110, 32, 116, 101, 114, 109, 32, 37, 100, 58, 32, 37, 119]⟩
theorem Tryf.fmt0r (w : World) : (FmtDoors.printed fmtText 5).run Tryf.prog w = .ok [(0, 115, false), (1, 100, false), (2, 115, false), (3, 100, false), (4, 119, false)] w := by kernel_rfl
def Tryf.shape9 : List UInt8 := [12, 6, 0, 0, 0, 0, 0, 0, 0, 115, 116, 114, 105, 110, 103]
theorem Tryf.op9_115w (name : String) (x : ByteArray) (w : World) : (FmtStop.operand name true 115 false (.iface 9 (.string x))).run Tryf.prog w = .ok (Tryf.shape9, FmtStop.pack x.data.toList) w := by kernel_rfl
def Tryf.shape22 : List UInt8 := [9, 6, 0, 0, 0, 0, 0, 0, 0, 117, 105, 110, 116, 54, 52]
theorem Tryf.op22_100w (name : String) (x : Int) (w : World) : (FmtStop.operand name true 100 false (.iface 22 (.int .u64 x))).run Tryf.prog w = .ok (Tryf.shape22, digits 8 (x % 2 ^ 64).toNat) w := by kernel_rfl
theorem Tryf.ptr76 (w : World) : (FmtStop.ptrTo "fmt.wrapError").run Tryf.prog w = .ok 76 w := by kernel_rfl
theorem Tryf.elem76 (w : World) : (elemOf 76).run Tryf.prog w = .ok 108 w := by kernel_rfl
theorem Tryf.isError69 (w : World) : (FmtDoors.textMethod 69 "Error").run Tryf.prog w = .ok true w := by kernel_rfl

theorem Tryf.opPlain69 (a : Addr) (s : ByteArray) (w : World) (hc : w.cell? a = some (.string s)) : ∃ r : List UInt8 × List UInt8,
    (FmtStop.operand "fmt.errorf" true 119 false (.iface 69 (.pointer (some a)))).run Tryf.prog w = .ok r w := by
  obtain ⟨nm, h1⟩ : ∃ nm : String, (typeStr 69).run Tryf.prog w = .ok nm w := ⟨(match (typeStr 69).run Tryf.prog w with | .ok s _ => s | _ => ""), by kernel_rfl⟩
  have d2 : Tryf.t69.desc = .pointer 71 := rfl
  have d3 : Tryf.t71.desc = .named "errors.errorString" 70 := rfl
  exact ⟨(14 :: FmtStop.pack nm.toByteArray.data.toList, s.data.toList), by simp [FmtStop.operand, h1, d2, d3, run_load, hc]⟩

set_option maxHeartbeats 1000000 in
theorem errorf_any (F : Interp) (B : Nat) (id fr : ByteArray) (idx t : Int) (a : Addr) (s : ByteArray) (w : World) (hF : F.answers w.tape)
    (c0 : w.cell? ⟨B, 0, none⟩ = some (.iface 9 (.string id))) (c1 : w.cell? ⟨B, 1, none⟩ = some (.iface 22 (.int .u64 idx))) (c2 : w.cell? ⟨B, 2, none⟩ = some (.iface 9 (.string fr)))
    (c3 : w.cell? ⟨B, 3, none⟩ = some (.iface 22 (.int .u64 t))) (c4 : w.cell? ⟨B, 4, none⟩ = some (.iface 69 (.pointer (some a)))) (hc : w.cell? a = some (.string s)) :
    Calls Tryf.prog 14 #[.string fmtText, .slice (some ⟨B, 0, none⟩) 5 5] w fun e w' => (∃ p, e = .returned (.iface 76 (.pointer (some p)))) ∧ Below w.heap.size w w' := by
  have hF' := answers_open hF
  obtain ⟨r, hop⟩ := Tryf.opPlain69 a s w hc
  have k16 := Tryf.call16
  have kg := Tryf.guard
  have kf := Tryf.fmt0r
  have k9 := Tryf.op9_115w
  have k22 := Tryf.op22_100w
  have kp := Tryf.ptr76
  have ke := Tryf.elem76
  have ki := Tryf.isError69
  generalize fmtText = ft at *
  go_enter Tryf.func14, Tryf.ntmps14
  go_wp2
  go_ret
  exact ⟨⟨_, rfl⟩, ((Below.refl _ _).alloc (Nat.le_refl _) _).drew⟩

/-- the text of the refusal -/
def refText : ByteArray := ⟨#[122, 122, 58, 32, 114, 101, 102, 117, 115, 101, 100]⟩
theorem new_any (s : ByteArray) (w : World) :
    Calls Tryf.prog 11 #[.string s] w fun e w' => e = .returned (.iface 69 (.pointer (some ⟨w.heap.size, 0, none⟩))) ∧ w' = w.alloc (.cells #[.string s] 71) := by
  go_enter Tryf.func11, Tryf.ntmps11
  go_wp2
  go_ret
  exact ⟨rfl, rfl⟩
theorem refuse_any (v : Value) (w : World) :
    Calls Tryf.prog 10 #[v] w fun e w' => e = .returned (.iface 69 (.pointer (some ⟨w.heap.size, 0, none⟩))) ∧ w' = w.alloc (.cells #[.string refText] 71) := by
  have h := hide (new_any refText)
  go_enter Tryf.func10, Tryf.ntmps10
  go_wp2_with fail
  refine (h.out _).mono ?_
  rintro e w' ⟨rfl, rfl⟩
  go_wp2
  go_ret
  exact ⟨rfl, rfl⟩
theorem accept_any (v : Value) (w : World) :
    Calls Tryf.prog 13 #[v] w fun e w' => e = .returned .nilIface ∧ w' = w := by
  go_enter Tryf.func13, Tryf.ntmps13
  go_wp2
  go_ret
  exact ⟨rfl, rfl⟩
end Go.Proofs.Qxb6617004aFmt
