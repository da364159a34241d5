import Derived.Test.Qxb6617836aRows
import Derived.WalkKit
import Derived.WalkSpells
import Derived.WalkLawsBesides
import Derived.ProofKit
import Derived.Maps.OwnSet
namespace Go.Proofs.Qxb6617836a
open Go.ChangeShapes Go.WideShapes Go.ChangeAt Go.RowKit Go.Maps
set_option linter.unusedVariables false

theorem hide {p : Prop} (h : p) : Hid p := h
theorem bthen {a b c : World} (h : Below a.heap.size a b) (k : Below b.heap.size b c) : Below a.heap.size a c := h.trans (k.mono h.size)
theorem keyLaw : Keyed Try.prog 24 := int_keyed Try.underlying24

/-- an element read as itself -/
def whole (v : Value) : Option (DataW Value × List MemPlace) := some (.held v, [])

/-- block b is a map of at most n entries that holds f -/
def MapF (w : World) (b n : Nat) (f : Int → Option Value) : Prop :=
  ∃ D : DataW Value, w.ownsMap Try.prog 24 whole b n D ∧ ∀ x, (Lit.int .u32 x).wf = true → has D (.int .u32 x) = (f x).isSome ∧ ∀ z : Value, D.atKey (.int .u32 x) (.held z) = .held ((f x).getD z)

theorem mapF_made (w : World) : MapF (w.alloc (.map #[] 0)) w.heap.size 0 (fun _ => none) :=
  ⟨_, World.ownsMap_made w Try.prog 24 whole, fun x _ => ⟨rfl, fun z => rfl⟩⟩

theorem MapF.look {w : World} {b n : Nat} {f : Int → Option Value} (h : MapF w b n f) {t e : TypeId} (ht : Try.prog.underlying t = some (.map 24 e)) {z : Value} (hz : (zeroValue e).run Try.prog w = .ok z w) {x : Int} (hx : (Lit.int .u32 x).wf = true) :
    (Instr.lookup t (.map (some b)) (.int .u32 x) true).run Try.prog w = .ok (.tuple #[(f x).getD z, .bool (f x).isSome]) w := by
  obtain ⟨D, ho, hf⟩ := h
  obtain ⟨v, ps, hrun, hv⟩ := ho.look_ok keyLaw ht hz (zd := .held z) (zp := []) rfl (keyOf_int_mk Try.underlying24 hx)
  obtain ⟨h1, h2⟩ := hf x hx
  rw [h2 z] at hv
  simp only [whole, Option.some.injEq, Prod.mk.injEq, DataW.held.injEq] at hv
  rw [hrun, h1, hv.1]

theorem MapF.get {w : World} {b n : Nat} {f : Int → Option Value} (h : MapF w b n f) {t e : TypeId} (ht : Try.prog.underlying t = some (.map 24 e)) {z : Value} (hz : (zeroValue e).run Try.prog w = .ok z w) {x : Int} (hx : (Lit.int .u32 x).wf = true) :
    (Instr.lookup t (.map (some b)) (.int .u32 x) false).run Try.prog w = .ok ((f x).getD z) w := by
  obtain ⟨D, ho, hf⟩ := h
  obtain ⟨v, ps, hrun, hv⟩ := ho.lookup keyLaw ht hz (zd := .held z) (zp := []) rfl (keyOf_int_mk Try.underlying24 hx)
  obtain ⟨h1, h2⟩ := hf x hx
  rw [h2 z] at hv
  simp only [whole, Option.some.injEq, Prod.mk.injEq, DataW.held.injEq] at hv
  rw [hrun, hv.1]

theorem MapF.put {w : World} {b n : Nat} {f : Int → Option Value} (h : MapF w b n f) {t e : TypeId} (ht : Try.prog.underlying t = some (.map 24 e)) (hn : n < maxLen) {x : Int} (hx : (Lit.int .u32 x).wf = true) (v : Value) :
    ∃ w', (Instr.mapUpdate t (.map (some b)) (.int .u32 x) v).run Try.prog w = .ok () w' ∧ MapF w' b (n + 1) (fun y => if y = x then some v else f y) ∧ w.grownBy w' (some b) := by
  obtain ⟨D, ho, hf⟩ := h
  obtain ⟨w', hrun, ho', ht'⟩ := ho.store keyLaw ht hn (keyOf_int_mk Try.underlying24 hx) (val := v) (d := .held v) (ps := []) rfl
  refine ⟨w', hrun, ⟨_, ho', fun y hy => ?_⟩, ht'.grown⟩
  by_cases e : y = x
  · subst e
    have hk : WideAt.IsKeyLit (Lit.int .u32 y) := trivial
    rw [has_put_same ho.isMap hk]
    simp only [if_true, Option.isSome_some, Option.getD_some]
    exact ⟨trivial, fun z => atKey_put_same ho.isMap hk _ _⟩
  · have hne : Lit.int .u32 y ≠ Lit.int .u32 x := fun h => e (by injection h)
    rw [has_put_other hne]
    simp only [if_neg e]
    exact ⟨(hf y hy).1, fun z => (atKey_put_other hne _ _).trans ((hf y hy).2 z)⟩

theorem MapF.kept {w w' : World} {b n : Nat} {f : Int → Option Value} (h : MapF w b n f) {row : Option Nat} (hg : w.grownBy w' row) (hne : some b ≠ row) : MapF w' b n f := by
  obtain ⟨D, ho, hf⟩ := h
  exact ⟨D, ho.kept hg hne, hf⟩
theorem MapF.below {w w' : World} {b n : Nat} {f : Int → Option Value} (h : MapF w b n f) (hb : Below w.heap.size w w') : MapF w' b n f :=
  h.kept (row := none) ⟨hb.os, hb.tape, hb.output, hb.size, fun k hk _ => hb.block k hk⟩ (by simp)
theorem MapF.congr {w : World} {b n m : Nat} {f g : Int → Option Value} (h : MapF w b n f) (hn : n ≤ m) (e : ∀ x, f x = g x) : MapF w b m g := by
  obtain ⟨D, ho, hf⟩ := h
  exact ⟨D, ho.mono hn, fun x hx => by rw [← e x]; exact hf x hx⟩
theorem MapF.lt {w : World} {b n : Nat} {f : Int → Option Value} (h : MapF w b n f) : b < w.heap.size := by
  obtain ⟨D, ho, hf⟩ := h
  exact ho.lt
end Go.Proofs.Qxb6617836a
