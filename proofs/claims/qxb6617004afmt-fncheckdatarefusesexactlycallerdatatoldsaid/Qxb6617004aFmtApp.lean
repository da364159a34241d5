import Derived.Test.Qxb6617004aFmtCheck
import Derived.Deep.RegionHeld3
namespace Go.Proofs.Qxb6617004aFmt
open Go.ChangeShapes Go.WideShapes Go.ChangeAt Go.RowKit
open Go.Extern.Stop Go.Stop Go.Extern
set_option linter.unusedVariables false

theorem NodeAt.later {w w' : World} {N : Nat} {id : ByteArray} {k : Nat} (hb : Below w.heap.size w w') (h : NodeAt w N id k) : NodeAt w' N id k :=
  ⟨cell_later hb h.1, cell_later hb h.2.1, cell_later hb h.2.2⟩

set_option maxRecDepth 100000 in
set_option maxHeartbeats 2000000 in
theorem check_accept (N : Nat) (id mt fr : ByteArray) (t : Int) (G : Nat) (es : List EntV) (w : World) (hN : NodeAt w N id 13) (hE : EntsAt w (some ⟨G, 0, none⟩) es) (hm : (mt.toList == [97, 112, 112, 101, 110, 100]) = true) (hn : es.length ≤ 65536) :
    Calls Tryf.prog 12 #[.pointer (some ⟨N, 0, none⟩), .agg (msgCells mt fr t (some ⟨G, 0, none⟩) es.length es.length)] w fun e w' => e = .returned .nilIface ∧ Below w.heap.size w w' := by
  have hb0 : ∀ o, Below w.heap.size w (w.alloc o) := fun o => (Below.refl _ _).alloc (Nat.le_refl _) o
  have HN0 := hide (fun o => hN.later (hb0 o))
  have HE0 := hide (fun o => hE.later (hb0 o))
  have HB0 := hide hb0
  clear hb0
  obtain ⟨h0, h37, h38⟩ := hN
  obtain ⟨n, hn'⟩ : ∃ n, n = es.length := ⟨_, rfl⟩
  rw [← hn'] at hn ⊢
  have HL := hide hn'
  clear hn' hE
  have hlt : N < w.heap.size := World.block_lt_of_cell? w ⟨N, 0, none⟩ h0
  have m0 := msg0 mt fr t (some ⟨G, 0, none⟩) n n
  have m7 := msg7 mt fr t (some ⟨G, 0, none⟩) n n
  have hf := neq_func
  go_enter Tryf.func12, Tryf.ntmps12
  go_wp2
  go_loopw [25] (fun i wr => ∃ k : Nat, k ≤ n ∧ i = .int .i64 k ∧ Below (w.alloc (.cells (msgCells mt fr t (some ⟨G, 0, none⟩) n n) 35)).heap.size (w.alloc (.cells (msgCells mt fr t (some ⟨G, 0, none⟩) n n) 35)) wr) (fun i _ => n - (intOf i).toNat)
  case atStart => exact ⟨0, Nat.zero_le _, rfl, Below.refl _ _⟩
  case round =>
    obtain ⟨k, hk, rfl, hb⟩ := hrel
    by_cases hlt : k < n
    · have hlt' : k < es.length := by rw [← HL.out]; exact hlt
      obtain ⟨b, off, hG, e0, e1, e2, e3⟩ := ((HE0.out _).later hb).get hlt'
      simp only [Option.some.injEq, Addr.mk.injEq, and_true] at hG
      obtain ⟨rfl, rfl⟩ := hG
      generalize es[k] = v at e0 e1 e2 e3
      obtain ⟨i0, t0, ty, da, dl, dc⟩ := v
      simp only [Nat.zero_add] at e0 e1 e2 e3
      obtain ⟨g0, g37, g38⟩ := (HN0.out _).later hb
      have hsz : N < wr.heap.size := World.block_lt_of_cell? wr ⟨N, 0, none⟩ g0
      clear h0 h37 h38 m0 m7 hf
      go_wp2
      · go_roundw
        case rel => exact ⟨k + 1, by omega, by go_num, hb.alloc hb.size _⟩
        case measure => simp [intOf]; omega
      · go_quiet ((go_at_call 13; exact Calls.quiet_of_same (accept_any _ _)))
        go_wp2
        go_roundw
        case rel => exact ⟨k + 1, by omega, by go_num, below_drewN (hb.alloc hb.size _) _⟩
        case measure => simp [intOf]; omega
      · go_roundw
        case rel => exact ⟨k + 1, by omega, by go_num, hb.alloc hb.size _⟩
        case measure => simp [intOf]; omega
    · go_wp2
      go_ret
      exact ⟨rfl, bthen (HB0.out _) hb⟩
end Go.Proofs.Qxb6617004aFmt
