import Derived.Test.Qxb6617004aFmtRef
import Derived.Laws.Rows
import Derived.Laws.Tables
namespace Go.Proofs.Qxb6617004aFmt
open Go.ChangeShapes Go.WideShapes Go.ChangeAt Go.RowKit
open Go.Extern.Stop Go.Stop Go.Extern
set_option linter.unusedVariables false

/-- is the message an append with an entry that carries data? -/
def wanted (mt : ByteArray) (es : List EntV) : Bool := (mt.toList == [97, 112, 112, 101, 110, 100]) && carriesB es
/-- an error comes back just where it is wanted -/
def errRes (b : Bool) (e : Ending) : Prop := (b = true ∧ ∃ p, e = .returned (.iface 76 (.pointer (some p)))) ∨ (b = false ∧ e = .returned .nilIface)

theorem node_new (w : World) (o : Obj) (id : ByteArray) (k : Nat) : NodeAt ((w.alloc o).alloc (.cells (nodeCells id (.func (.func k) #[] #[])) 67)) (w.heap.size + 1) id k := by
  have h : ∀ j, ((w.alloc o).alloc (.cells (nodeCells id (.func (.func k) #[] #[])) 67)).cell? ⟨w.heap.size + 1, j, none⟩ = (nodeCells id (.func (.func k) #[] #[]))[j]? := fun j => World.cell?_alloc_at _ _ _ _ (by simp)
  exact ⟨(h 0).trans (node0 _ _), (h 37).trans (node37 _ _), (h 38).trans (node38 _ _)⟩
theorem two_new (w : World) (o o' : Obj) : Below w.heap.size w ((w.alloc o).alloc o') := bthen ((Below.refl _ _).alloc (Nat.le_refl _) _) ((Below.refl _ _).alloc (Nat.le_refl _) _)
theorem first_new (w : World) (o o' : Obj) : ((w.alloc o).alloc o').heap[w.heap.size]? = some o := by
  show ((w.heap.push o).push o')[w.heap.size]? = some o
  simp [Array.getElem?_push]

set_option maxRecDepth 100000 in
set_option maxHeartbeats 1000000 in
theorem refuse8 (F : Interp) (id mt fr : ByteArray) (t : Int) (G : Nat) (es : List EntV) (w : World) (hF : F.answers w.tape) (hE : EntsAt w (some ⟨G, 0, none⟩) es) (hn : es.length ≤ 65536) :
    Calls Tryf.prog 8 #[.string id, .agg (msgCells mt fr t (some ⟨G, 0, none⟩) es.length es.length)] w fun e w' => errRes (wanted mt es) e ∧ Below w.heap.size w w' := by
  obtain ⟨m, hm⟩ : ∃ m, m = msgCells mt fr t (some ⟨G, 0, none⟩) es.length es.length := ⟨_, rfl⟩
  have hsz : m.size = 17 := by rw [hm]; rfl
  have H : Hid (Calls Tryf.prog 12 #[.pointer (some ⟨w.heap.size + 1, 0, none⟩), .agg m] ((w.alloc (.cells m 35)).alloc (.cells (nodeCells id (.func (.func 10) #[] #[])) 67)) fun e w' => errRes (wanted mt es) e ∧ Below w.heap.size w w') := by
    rw [hm]
    have hN := node_new w (.cells (msgCells mt fr t (some ⟨G, 0, none⟩) es.length es.length) 35) id 10
    have hb := two_new w (.cells (msgCells mt fr t (some ⟨G, 0, none⟩) es.length es.length) 35) (.cells (nodeCells id (.func (.func 10) #[] #[])) 67)
    cases c : (mt.toList == [97, 112, 112, 101, 110, 100])
    · refine (check_other 10 _ id mt fr t _ _ _ _ hN c).mono ?_
      rintro e w' ⟨he, hb'⟩
      exact ⟨Or.inr ⟨by unfold wanted; rw [c]; rfl, he⟩, bthen hb hb'⟩
    · refine (check_refuse F _ id mt fr t G es _ (by exact hF) hN (hE.later hb) c hn).mono ?_
      rintro e w' ⟨he, hb'⟩
      refine ⟨?_, bthen hb hb'⟩
      have hw : wanted mt es = carriesB es := by unfold wanted; rw [c]; rfl
      unfold errRes
      rw [hw]
      exact he
  rw [← hm]
  have HS := hide hsz
  clear hm hE hsz
  go_enter Tryf.func8, Tryf.ntmps8
  go_wp2_with (first | (refine wpList_build rfl 67 [(0, .tmp 6), (21, .func 10)] rfl [(0, .string id), (21, .func (.func 10) #[] #[])] rfl _ (build67 id 10 _) ?_) | (refine wpList_load_row rfl 35 (.tmp 3) rfl w.heap.size rfl 35 m (0, 0) _ (first_new _ _ _) Tryf.underlying35 rfl (by rw [HS.out]; exact Tryf.size35) ?_))
  refine H.out.mono ?_
  rintro e w' ⟨he, hb⟩
  rcases he with ⟨h1, p, rfl⟩ | ⟨h1, rfl⟩
  · go_wp2
    go_ret
    exact ⟨Or.inl ⟨h1, _, rfl⟩, hb⟩
  · go_wp2
    go_ret
    exact ⟨Or.inr ⟨h1, rfl⟩, hb⟩

set_option maxRecDepth 100000 in
set_option maxHeartbeats 1000000 in
theorem accept9 (id mt fr : ByteArray) (t : Int) (G : Nat) (es : List EntV) (w : World) (hE : EntsAt w (some ⟨G, 0, none⟩) es) (hn : es.length ≤ 65536) :
    Calls Tryf.prog 9 #[.string id, .agg (msgCells mt fr t (some ⟨G, 0, none⟩) es.length es.length)] w fun e w' => e = .returned .nilIface ∧ Below w.heap.size w w' := by
  obtain ⟨m, hm⟩ : ∃ m, m = msgCells mt fr t (some ⟨G, 0, none⟩) es.length es.length := ⟨_, rfl⟩
  have hsz : m.size = 17 := by rw [hm]; rfl
  have H : Hid (Calls Tryf.prog 12 #[.pointer (some ⟨w.heap.size + 1, 0, none⟩), .agg m] ((w.alloc (.cells m 35)).alloc (.cells (nodeCells id (.func (.func 13) #[] #[])) 67)) fun e w' => e = .returned .nilIface ∧ Below w.heap.size w w') := by
    rw [hm]
    have hN := node_new w (.cells (msgCells mt fr t (some ⟨G, 0, none⟩) es.length es.length) 35) id 13
    have hb := two_new w (.cells (msgCells mt fr t (some ⟨G, 0, none⟩) es.length es.length) 35) (.cells (nodeCells id (.func (.func 13) #[] #[])) 67)
    cases c : (mt.toList == [97, 112, 112, 101, 110, 100])
    · refine (check_other 13 _ id mt fr t _ _ _ _ hN c).mono ?_
      rintro e w' ⟨he, hb'⟩
      exact ⟨he, bthen hb hb'⟩
    · refine (check_accept _ id mt fr t G es _ hN (hE.later hb) c hn).mono ?_
      rintro e w' ⟨he, hb'⟩
      exact ⟨he, bthen hb hb'⟩
  rw [← hm]
  have HS := hide hsz
  clear hm hE hsz
  go_enter Tryf.func9, Tryf.ntmps9
  go_wp2_with (first | (refine wpList_build rfl 67 [(0, .tmp 6), (21, .func 13)] rfl [(0, .string id), (21, .func (.func 13) #[] #[])] rfl _ (build67 id 13 _) ?_) | (refine wpList_load_row rfl 35 (.tmp 3) rfl w.heap.size rfl 35 m (0, 0) _ (first_new _ _ _) Tryf.underlying35 rfl (by rw [HS.out]; exact Tryf.size35) ?_))
  refine H.out.mono ?_
  rintro e w' ⟨rfl, hb⟩
  go_wp2
  go_ret
  exact ⟨rfl, hb⟩
end Go.Proofs.Qxb6617004aFmt
