import Derived.Test.Qxb6617004aFmtScan
import Derived.BigRegion
import Derived.Laws.IdiomCopy
namespace Go.Proofs.Qxb6617004aFmt
open Go.ChangeShapes Go.WideShapes Go.ChangeAt Go.RowKit
set_option linter.unusedVariables false

def zeroCells4 : Array Value := #[.int .u64 0, .int .u64 0, .string ByteArray.empty, .slice none 0 0]
theorem Tryf.info44 : (Tryf.prog.info? 44).map (fun i => (i.zero, i.size, i.bytes)) = some (some (.agg zeroCells4), 4, 56) := by kernel_rfl
def zeroEnt : EntV := ⟨0, 0, ByteArray.empty, none, 0, 0⟩

/-- a row of entries of the call's own at the head of block g -/
def Own4 (w : World) (g : Nat) (rs : List EntV) : Prop := (∀ i (h : i < rs.length), EntAt w g (i * 4) rs[i]) ∧ ∀ o, w.frozen? ⟨g, o, none⟩ = false

theorem made_at (n i c : Nat) (hi : i < n) (hc : c < 4) : (madeCells zeroCells4 (n * 4))[i * 4 + c]? = some (zeroCells4[c]'hc) := by
  have hm : (i * 4 + c) % 4 = c := by omega
  have hz : zeroCells4.size = 4 := rfl
  unfold madeCells
  rw [Array.getElem?_map, Array.getElem?_range, if_pos (by omega)]
  simp only [Option.map_some, hz, hm]
  rw [getElem!_pos zeroCells4 c (by rw [hz]; exact hc)]
  rfl
theorem own4_made (w : World) (n : Nat) : Own4 (w.alloc (.cells (madeCells zeroCells4 (n * 4)) 44)) w.heap.size ([] ++ List.replicate (n - 0) zeroEnt) := by
  refine ⟨fun i hi => ?_, fun o => ?_⟩
  · simp only [List.nil_append, Nat.sub_zero, List.length_replicate] at hi
    have hc : ∀ c (hc : c < 4), (w.alloc (.cells (madeCells zeroCells4 (n * 4)) 44)).cell? ⟨w.heap.size, i * 4 + c, none⟩ = some (zeroCells4[c]'hc) := fun c hc =>
      (World.cell?_alloc_at _ _ _ _ rfl).trans (made_at n i c hi hc)
    have e : ([] ++ List.replicate (n - 0) zeroEnt)[i]'(by simpa using hi) = zeroEnt := by simp
    rw [e]
    exact ⟨hc 0 (by decide), hc 1 (by decide), hc 2 (by decide), hc 3 (by decide)⟩
  · simp only [World.frozen?, heap_alloc_new]; simp
theorem own4_get {w : World} {g : Nat} {rs : List EntV} (h : Own4 w g rs) {k : Nat} (hk : k < rs.length) : ∃ z : EntV, EntAt w g (k * 4) z := ⟨_, h.1 k hk⟩
/-- an entry's cells -/
def EntV.cells (v : EntV) : List Value := [.int .u64 v.idx, .int .u64 v.term, .string v.ty, .slice v.da v.dl v.dc]
theorem EntV.cells_len (v : EntV) : v.cells.length = 4 := rfl
theorem EntV.cells0 (v : EntV) (h : 0 < v.cells.length) : v.cells[0] = .int .u64 v.idx := rfl
theorem EntV.cells1 (v : EntV) (h : 1 < v.cells.length) : v.cells[1] = .int .u64 v.term := rfl
theorem EntV.cells2 (v : EntV) (h : 2 < v.cells.length) : v.cells[2] = .string v.ty := rfl
theorem EntV.cells3 (v : EntV) (h : 3 < v.cells.length) : v.cells[3] = .slice v.da v.dl v.dc := rfl
theorem entAt_set {w : World} {g o : Nat} {u v : EntV} (h : EntAt w g o u) : EntAt (w.setCells g o v.cells) g o v := by
  obtain ⟨a0, a1, a2, a3⟩ := h
  have hin := World.cell?_setCells_in g v.cells o w (by
    intro j hj
    rw [EntV.cells_len] at hj
    have : j = 0 ∨ j = 1 ∨ j = 2 ∨ j = 3 := by omega
    rcases this with rfl | rfl | rfl | rfl
    · rw [Nat.add_zero, a0]; rfl
    · rw [a1]; rfl
    · rw [a2]; rfl
    · rw [a3]; rfl)
  have b0 := hin 0 (by rw [EntV.cells_len]; omega)
  have b1 := hin 1 (by rw [EntV.cells_len]; omega)
  have b2 := hin 2 (by rw [EntV.cells_len]; omega)
  have b3 := hin 3 (by rw [EntV.cells_len]; omega)
  rw [EntV.cells0, Nat.add_zero] at b0
  rw [EntV.cells1] at b1
  rw [EntV.cells2] at b2
  rw [EntV.cells3] at b3
  exact ⟨b0, b1, b2, b3⟩
theorem entAt_apart {w : World} {g o o' : Nat} {u v : EntV} (h : EntAt w g o' u) (hne : o' + 4 ≤ o ∨ o + 4 ≤ o') : EntAt (w.setCells g o v.cells) g o' u := by
  obtain ⟨a0, a1, a2, a3⟩ := h
  have out : ∀ c, c < 4 → (w.setCells g o v.cells).cell? ⟨g, o' + c, none⟩ = w.cell? ⟨g, o' + c, none⟩ := fun c hc =>
    World.cell?_setCells_out g v.cells o w ⟨g, o' + c, none⟩ (fun _ _ => by
      rw [EntV.cells_len]
      show o' + c < o ∨ o + 4 ≤ o' + c
      omega)
  have b0 := out 0 (by omega)
  rw [Nat.add_zero] at b0
  exact ⟨b0.trans a0, (out 1 (by omega)).trans a1, (out 2 (by omega)).trans a2, (out 3 (by omega)).trans a3⟩
theorem own4_store {w : World} {g : Nat} {rs : List EntV} {v : EntV} (h : Own4 w g rs) {k : Nat} (hk : k < rs.length) : Own4 (w.setCells g (k * 4) v.cells) g (rs.set k v) := by
  refine ⟨fun i hi => ?_, fun o => (World.frozen?_setCells g _ _ _ _).trans (h.2 o)⟩
  rw [List.length_set] at hi
  by_cases e : k = i
  · subst e
    rw [List.getElem_set_self]
    exact entAt_set (h.1 k hk)
  · rw [List.getElem_set_ne e]
    exact entAt_apart (h.1 i hi) (by omega)
theorem own4_drew {w : World} {g : Nat} {rs : List EntV} (h : Own4 w g rs) : Own4 w.drew g rs := h
theorem step_list {es : List EntV} {n k : Nat} {v : EntV} (hk : k < n) (hk' : k < es.length) (hn : n = es.length) (hv : es[k] = v) :
    (es.take k ++ List.replicate (n - k) zeroEnt).set k v = es.take (k + 1) ++ List.replicate (n - (k + 1)) zeroEnt := by
  obtain ⟨m, hm⟩ : ∃ m, n - k = m + 1 := ⟨n - k - 1, by omega⟩
  have e2 : n - (k + 1) = m := by omega
  rw [hm, e2, List.take_succ_eq_append_getElem hk', hv, List.set_append_right _ _ (by simp; omega), List.replicate_succ]
  have e3 : k - (es.take k).length = 0 := by simp; omega
  rw [e3, List.set_cons_zero]
  simp
theorem EntsAt.later {w w' : World} {a : Option Addr} {es : List EntV} (hb : Below w.heap.size w w') (h : EntsAt w a es) : EntsAt w' a es := by
  rcases h with h | ⟨b, off, e, hc⟩
  · exact Or.inl h
  · exact Or.inr ⟨b, off, e, fun i hi => ⟨cell_later hb (hc i hi).1, cell_later hb (hc i hi).2.1, cell_later hb (hc i hi).2.2.1, cell_later hb (hc i hi).2.2.2⟩⟩

set_option maxHeartbeats 1000000 in
theorem to_any (a : Option Addr) (cap : Nat) (es : List EntV) (w : World) (hs : EntsAt w a es) (hn : es.length ≤ 65536) :
    Calls Tryf.prog 6 #[.slice a es.length cap] w fun e w' => e = .returned (.slice (some ⟨w.heap.size, 0, none⟩) es.length es.length) ∧ Own4 w' w.heap.size es ∧ Below w.heap.size w w' := by
  obtain ⟨n, hn'⟩ : ∃ n, n = es.length := ⟨_, rfl⟩
  rw [← hn'] at hn ⊢
  have HN := hide hn'
  have HV := hide hs
  clear hn' hs
  obtain ⟨i0, hi, hz0, hz1, hz2⟩ := info_parts Tryf.info44
  have hmk := fun w => run_make (P := Tryf.prog) w 27 44 i0 (.agg zeroCells4) Tryf.underlying27 hi hz0 .i64 .i64 n n (by omega) (by omega) (by rw [hz2]; omega) (by omega)
  simp only [hz1] at hmk
  clear hi hz0 hz1 hz2
  go_enter Tryf.func6, Tryf.ntmps6
  go_wp2
  go_loopw [4] (fun i wr => ∃ k : Nat, k ≤ n ∧ i = .int .i64 k ∧ Hid (Own4 wr w.heap.size (es.take k ++ List.replicate (n - k) zeroEnt)) ∧ Below w.heap.size w wr) (fun i _ => n - (intOf i).toNat)
  case atStart => exact ⟨0, Nat.zero_le _, rfl, own4_made w n, (Below.refl _ _).alloc (Nat.le_refl _) _⟩
  case round =>
    clear hmk
    obtain ⟨k, hk, rfl, HO, hb⟩ := hrel
    by_cases hlt : k < n
    · have hlt' : k < es.length := by rw [← HN.out]; exact hlt
      obtain ⟨b, off, rfl, h0, h1, h2, h3⟩ := (HV.out.later hb).get hlt'
      obtain ⟨v, hv⟩ : ∃ v, es[k] = v := ⟨_, rfl⟩
      rw [hv] at h0 h1 h2 h3
      have HY := hide hv
      clear hv
      obtain ⟨i0, t0, ty, da, dl, dc⟩ := v
      simp only at h0 h1 h2 h3
      obtain ⟨z, q0, q1, q2, q3⟩ := own4_get HO.out (k := k) (by simp; omega)
      have f0 := HO.out.2 (k * 4)
      have f1 := HO.out.2 (k * 4 + 1)
      have f2 := HO.out.2 (k * 4 + 2)
      have f3 := HO.out.2 (k * 4 + 3)
      have hk0 : (k : Int) < (n : Int) := by omega
      go_wp2
      go_region
      clear h0 h1 h2 h3 q0 q1 q2 q3 f0 f1 f2 f3
      go_wp2
      go_roundw
      case rel =>
        refine ⟨k + 1, by omega, by go_num, ?_, ?_⟩
        · have h := own4_store (v := ⟨i0, t0, ty, da, dl, dc⟩) HO.out (k := k) (by simp; omega)
          rw [step_list hlt hlt' HN.out HY.out] at h
          exact own4_drew h
        · exact (((((hb.setCell (Nat.le_refl _) _).setCell (Nat.le_refl _) _).setCell (Nat.le_refl _) _).setCell (Nat.le_refl _) _)).drew
      case measure => simp [intOf]; omega
    · have e : k = n := by omega
      subst e
      have HF : Hid (Own4 wr w.heap.size es) := by
        have h := HO.out
        rw [Nat.sub_self, List.replicate_zero, List.append_nil, List.take_of_length_le (by rw [← HN.out]; exact Nat.le_refl _)] at h
        exact h
      go_wp2
      go_ret
      exact ⟨rfl, HF.out, hb⟩
end Go.Proofs.Qxb6617004aFmt
