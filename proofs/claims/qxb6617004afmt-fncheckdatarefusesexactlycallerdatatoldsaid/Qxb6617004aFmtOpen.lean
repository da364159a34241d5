import Derived.Test.Qxb6617004aFmtMain
import Derived.Deep.Slices
namespace Go.Proofs.Qxb6617004aFmt
open Go.ChangeShapes Go.WideShapes Go.ChangeAt Go.RowKit
set_option linter.unusedVariables false

theorem Tryf.cells41 : Tryf.prog.cellsOf 41 = 4 := by kernel_rfl
theorem Tryf.cells22 : Tryf.prog.cellsOf 22 = 1 := by kernel_rfl
theorem Tryf.cells9 : Tryf.prog.cellsOf 9 = 1 := by kernel_rfl
theorem Tryf.cells29 : Tryf.prog.cellsOf 29 = 1 := by kernel_rfl

theorem list4 {α : Type} {l : List α} (h : l.length = 4) : ∃ a b c d, l = [a, b, c, d] := by
  match l, h with
  | [a, b, c, d], _ => exact ⟨a, b, c, d, rfl⟩

/-- an entry that can be read: its four cells -/
theorem open_ent {H : Type} {enc : TypeId × Value → H} {w : World} {base : Nat} {spare : Nat → Bool} {held : Bool} {fuel : Nat} {cs : List Value} {x : DataW H × List MemPlace}
    (h : DataW.trod enc Tryf.prog w base spare held fuel 41 cs = some x) : ∃ v : EntV, cs = v.cells := by
  obtain ⟨xs, n, _, _, hl, hxs, hf⟩ := DataW.trod_struct Tryf.underlying41 h
  rw [Tryf.cells41] at hl
  obtain ⟨c0, c1, c2, c3, rfl⟩ := list4 hl
  obtain ⟨x0, x1, x2, x3, rfl⟩ := list4 (l := xs) (by rw [hxs]; rfl)
  have f0 : DataW.trod enc Tryf.prog w base spare held n 22 [c0] = some x0 := by simpa [Tryf.cells22] using hf 0 _ rfl
  have f1 : DataW.trod enc Tryf.prog w base spare held n 22 [c1] = some x1 := by simpa [Tryf.cells22] using hf 1 _ rfl
  have f2 : DataW.trod enc Tryf.prog w base spare held n 9 [c2] = some x2 := by simpa [Tryf.cells9] using hf 2 _ rfl
  have f3 : DataW.trod enc Tryf.prog w base spare held n 29 [c3] = some x3 := by simpa [Tryf.cells29] using hf 3 _ rfl
  obtain ⟨i0, e0, _, _⟩ := DataW.trod_int Tryf.underlying22 f0
  obtain ⟨i1, e1, _, _⟩ := DataW.trod_int Tryf.underlying22 f1
  obtain ⟨s2, e2, _, _⟩ := DataW.trod_string Tryf.underlying9 f2
  have e3 : ∃ a l c, [c3] = [Value.slice a l c] := by
    rcases DataW.trod_slice Tryf.underlying29 f3 with ⟨e, _⟩ | ⟨a, len, cap, _, _, _, _, e, _⟩
    · exact ⟨_, _, _, e⟩
    · exact ⟨_, _, _, e⟩
  obtain ⟨a, l, c, e3⟩ := e3
  simp only [List.cons.injEq, and_true] at e0 e1 e2 e3
  subst e0 e1 e2 e3
  exact ⟨⟨i0, i1, s2, a, l, c⟩, rfl⟩

/-- a slice of entries that can be read: nil, or its entries lie in memory -/
theorem open_ents {H : Type} {enc : TypeId × Value → H} {w : World} {base : Nat} {spare : Nat → Bool} {held : Bool} {fuel : Nat} {a : Option Addr} {len cap : Nat} {x : DataW H × List MemPlace}
    (h : DataW.trod enc Tryf.prog w base spare held fuel 23 [.slice a len cap] = some x) : ∃ es : List EntV, es.length = len ∧ EntsAt w a es ∧ len ≤ maxLen := by
  rcases Deep.open_slice Tryf.underlying23 h with ⟨e, _⟩ | ⟨ad, l, c, m, n, D, Pl, e, _, hl, hm, hmm, _, hx⟩
  · simp only [List.cons.injEq, Value.slice.injEq, and_true] at e
    obtain ⟨rfl, rfl, rfl⟩ := e
    exact ⟨[], rfl, Or.inl rfl, Nat.zero_le _⟩
  · simp only [List.cons.injEq, Value.slice.injEq, and_true] at e
    obtain ⟨rfl, rfl, rfl⟩ := e
    have hle : len ≤ m := by rw [hmm]; split <;> omega
    have each : ∀ i, i < len → ∃ v : EntV, ∀ j, j < 4 → w.cell? ((ad.add (i * 4)).add j) = v.cells[j]? := by
      intro i hi
      obtain ⟨cs', h1, h2⟩ := hx i (by omega)
      rw [Tryf.cells41] at h1
      obtain ⟨_, _, hc⟩ := World.cells?_some h1
      obtain ⟨v, rfl⟩ := open_ent h2
      exact ⟨v, hc⟩
    by_cases h0 : len = 0
    · subst h0
      exact ⟨[], rfl, Or.inl rfl, Nat.zero_le _⟩
    obtain ⟨b, off, spot⟩ := ad
    have hspot : spot = none := by
      obtain ⟨v, hv⟩ := each 0 (by omega)
      have := hv 0 (by omega)
      have hs := World.cell?_spot (w := w) (this.trans (show v.cells[0]? = some (.int .u64 v.idx) from rfl))
      simpa [Addr.add] using hs
    subst hspot
    have pick : ∃ f : Nat → EntV, ∀ i, i < len → ∀ j, j < 4 → w.cell? (((⟨b, off, none⟩ : Addr).add (i * 4)).add j) = (f i).cells[j]? :=
      ⟨fun i => if hi : i < len then Classical.choose (each i hi) else zeroEnt, fun i hi => by
        simp only [dif_pos hi]
        exact Classical.choose_spec (each i hi)⟩
    obtain ⟨f, hf⟩ := pick
    refine ⟨(List.range len).map f, by simp, Or.inr ⟨b, off, rfl, fun i hi => ?_⟩, by omega⟩
    simp only [List.length_map, List.length_range] at hi
    simp only [List.getElem_map, List.getElem_range]
    have hh := hf i hi
    simp only [Addr.add_lit] at hh
    exact ⟨hh 0 (by omega), hh 1 (by omega), hh 2 (by omega), hh 3 (by omega)⟩
end Go.Proofs.Qxb6617004aFmt
