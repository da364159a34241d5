import Derived.Test.Qxb6617004aFmtRows
import Derived.WalkKit
import Derived.WalkSpells
import Derived.WalkLawsBesides
import Derived.ProofKit
namespace Go.Proofs.Qxb6617004aFmt
open Go.ChangeShapes Go.WideShapes Go.ChangeAt Go.RowKit
set_option linter.unusedVariables false

theorem hide {p : Prop} (h : p) : Hid p := h
theorem ret_bool {a b : Bool} (h : a = b) : Ending.returned (.bool a) = .returned (.bool b) := by rw [h]
theorem bthen {a b c : World} (h : Below a.heap.size a b) (k : Below b.heap.size b c) : Below a.heap.size a c := h.trans (k.mono h.size)

/-- an entry as it lies in memory: its data's slice is not looked into -/
structure EntV where
  idx : Int
  term : Int
  ty : ByteArray
  da : Option Addr
  dl : Nat
  dc : Nat

/-- the four cells of an entry -/
def EntAt (w : World) (b o : Nat) (e : EntV) : Prop :=
  w.cell? ⟨b, o, none⟩ = some (.int .u64 e.idx) ∧ w.cell? ⟨b, o + 1, none⟩ = some (.int .u64 e.term) ∧ w.cell? ⟨b, o + 2, none⟩ = some (.string e.ty) ∧ w.cell? ⟨b, o + 3, none⟩ = some (.slice e.da e.dl e.dc)

/-- the entries es lie from the address on -/
def EntsAt (w : World) (a : Option Addr) (es : List EntV) : Prop :=
  es = [] ∨ ∃ b off, a = some ⟨b, off, none⟩ ∧ ∀ i (h : i < es.length), EntAt w b (off + i * 4) es[i]

theorem EntsAt.get {w : World} {a : Option Addr} {es : List EntV} (h : EntsAt w a es) {k : Nat} (hk : k < es.length) : ∃ b off, a = some ⟨b, off, none⟩ ∧ EntAt w b (off + k * 4) es[k] := by
  rcases h with rfl | ⟨b, off, e, hc⟩
  · simp at hk
  · exact ⟨b, off, e, hc k hk⟩

/-- is it caller data that is not empty? -/
def EntV.carries (e : EntV) : Bool := e.ty.toList.isEmpty && decide (0 < e.dl)
def carriesB (es : List EntV) : Bool := es.any EntV.carries

theorem carriesB_snoc (es : List EntV) (k : Nat) (hk : k < es.length) {v : EntV} (hv : es[k] = v) : carriesB (es.take (k + 1)) = (carriesB (es.take k) || v.carries) := by
  unfold carriesB
  rw [List.take_succ_eq_append_getElem hk, hv, List.any_append]
  simp
theorem carriesB_at {es : List EntV} {k : Nat} (hk : k < es.length) {v : EntV} (hv : es[k] = v) (h : v.carries = true) : carriesB es = true :=
  List.any_eq_true.2 ⟨v, hv ▸ List.getElem_mem hk, h⟩
theorem carries_yes {i0 t0 : Int} {ty : ByteArray} {da : Option Addr} {dl dc : Nat} (h1 : ty.toList = []) (h2 : 0 < dl) : (EntV.mk i0 t0 ty da dl dc).carries = true := by
  simp [EntV.carries, h1, h2]
theorem carries_no1 {i0 t0 : Int} {ty : ByteArray} {da : Option Addr} {dl dc : Nat} (h1 : ¬ ty.toList = []) : (EntV.mk i0 t0 ty da dl dc).carries = false := by
  simp [EntV.carries, h1]
theorem carries_no2 {i0 t0 : Int} {ty : ByteArray} {da : Option Addr} {dl dc : Nat} (h2 : ¬ 0 < dl) : (EntV.mk i0 t0 ty da dl dc).carries = false := by
  simp [EntV.carries, h2]

set_option maxHeartbeats 400000 in
theorem carries_any (a : Option Addr) (cap : Nat) (es : List EntV) (w : World) (hs : EntsAt w a es) (hn : es.length ≤ maxLen) :
    Calls Tryf.prog 7 #[.slice a es.length cap] w fun e w' => e = .returned (.bool (carriesB es)) ∧ w' = w := by
  unfold maxLen at hn
  obtain ⟨n, hn'⟩ : ∃ n, n = es.length := ⟨_, rfl⟩
  rw [← hn'] at hn ⊢
  have HN := hide hn'
  have HV := hide hs
  clear hn' hs
  go_enter Tryf.func7, Tryf.ntmps7
  go_wp2
  go_loop [3] (fun i => ∃ k : Nat, k ≤ n ∧ i = .int .i64 k ∧ Hid (carriesB (es.take k) = false)) (fun i => n - (intOf i).toNat)
  case atStart => exact ⟨0, Nat.zero_le _, rfl, rfl⟩
  case round =>
    obtain ⟨k, hk, rfl, HT⟩ := hrel
    by_cases hlt : k < n
    · have hlt' : k < es.length := by rw [← HN.out]; exact hlt
      obtain ⟨b, off, rfl, h0, h1, h2, h3⟩ := HV.out.get hlt'
      obtain ⟨v, hv⟩ : ∃ v, es[k] = v := ⟨_, rfl⟩
      rw [hv] at h0 h1 h2 h3
      have HY := hide hv
      clear hv
      obtain ⟨i0, t0, ty, da, dl, dc⟩ := v
      simp only at h0 h1 h2 h3
      go_wp2
      · go_ret
        exact ⟨ret_bool (carriesB_at hlt' HY.out (carries_yes (by assumption) (by assumption))).symm, rfl⟩
      · go_round
        case rel => exact ⟨k + 1, by omega, by go_num, by rw [carriesB_snoc es k hlt' HY.out, HT.out]; exact carries_no2 (by assumption)⟩
        case measure => simp [intOf]; omega
      · go_round
        case rel => exact ⟨k + 1, by omega, by go_num, by rw [carriesB_snoc es k hlt' HY.out, HT.out]; exact carries_no1 (by assumption)⟩
        case measure => simp [intOf]; omega
    · have HF : Hid (carriesB es = false) := by
        have h := HT.out
        rwa [List.take_of_length_le (by rw [← HN.out]; omega)] at h
      go_wp2
      go_ret
      exact ⟨ret_bool HF.out.symm, rfl⟩

/-! ### the guards -/
/-- some bool comes back -/
def aBool (e : Ending) : Prop := ∃ b : Bool, e = .returned (.bool b)
/-- a counter within n, and a number -/
def cnt (n : Nat) (z i : Value) : Prop := ∃ (k : Nat) (zn : Int), k ≤ n ∧ i = .int .i64 k ∧ z = .int .i64 zn

set_option maxHeartbeats 2000000 in
theorem bytes_any (id fr : ByteArray) (t : Int) (mt : ByteArray) (a : Option Addr) (cap : Nat) (es : List EntV) (w : World) (hs : EntsAt w a es) (hn : es.length ≤ maxLen) :
    Calls Tryf.prog 4 #[.string id, .string fr, .int .u64 t, .string mt, .slice a es.length cap] w fun e w' => aBool e ∧ w' = w := by
  unfold maxLen at hn
  obtain ⟨n, hn'⟩ : ∃ n, n = es.length := ⟨_, rfl⟩
  rw [← hn'] at hn ⊢
  have HN := hide hn'
  have HV := hide hs
  clear hn' hs
  go_enter Tryf.func4, Tryf.ntmps4
  go_wp2
  all_goals first
    | (go_ret
       exact ⟨⟨_, rfl⟩, rfl⟩)
    | (go_loop [11, 12] (fun z i => cnt n z i) (fun _ i => n - (intOf i).toNat)
       case atStart => exact ⟨0, _, Nat.zero_le _, rfl, rfl⟩
       case round =>
         obtain ⟨k, zn, hk, rfl, rfl⟩ := hrel
         by_cases hlt : k < n
         · have hlt' : k < es.length := by rw [← HN.out]; exact hlt
           obtain ⟨b, off, rfl, h0, h1, h2, h3⟩ := HV.out.get hlt'
           generalize es[k] = v at h0 h1 h2 h3
           obtain ⟨i0, t0, ty, da, dl, dc⟩ := v
           simp only at h0 h1 h2 h3
           go_wp2
           all_goals first
             | (go_ret
                exact ⟨⟨_, rfl⟩, rfl⟩)
             | (go_round
                case rel => exact ⟨k + 1, _, by omega, by go_num, rfl⟩
                case measure => simp [intOf]; omega)
         · go_wp2
           all_goals
             go_ret
             exact ⟨⟨_, rfl⟩, rfl⟩)

/-- a bool comes back; if it is false there are at most 65536 entries -/
def bigRes (n : Nat) (e : Ending) : Prop := ∃ b : Bool, e = .returned (.bool b) ∧ (b = false → n ≤ 65536)

set_option maxHeartbeats 2000000 in
theorem big_any (id fr mt : ByteArray) (a : Option Addr) (cap : Nat) (es : List EntV) (w : World) (hs : EntsAt w a es) (hn : es.length ≤ maxLen) :
    Calls Tryf.prog 5 #[.string id, .string fr, .string mt, .slice a es.length cap] w fun e w' => bigRes es.length e ∧ w' = w := by
  unfold maxLen at hn
  obtain ⟨n, hn'⟩ : ∃ n, n = es.length := ⟨_, rfl⟩
  rw [← hn'] at hn ⊢
  have HN := hide hn'
  have HV := hide hs
  clear hn' hs
  by_cases hbig : n ≤ 65536
  · go_enter Tryf.func5, Tryf.ntmps5
    go_wp2
    all_goals first
      | (go_ret
         exact ⟨⟨_, rfl, fun _ => hbig⟩, rfl⟩)
      | (go_loop [9, 10] (fun z i => cnt n z i) (fun _ i => n - (intOf i).toNat)
         case atStart => exact ⟨0, _, Nat.zero_le _, rfl, rfl⟩
         case round =>
           obtain ⟨k, zn, hk, rfl, rfl⟩ := hrel
           by_cases hlt : k < n
           · have hlt' : k < es.length := by rw [← HN.out]; exact hlt
             obtain ⟨b, off, rfl, h0, h1, h2, h3⟩ := HV.out.get hlt'
             generalize es[k] = v at h0 h1 h2 h3
             obtain ⟨i0, t0, ty, da, dl, dc⟩ := v
             simp only at h0 h1 h2 h3
             go_wp2
             all_goals first
               | (go_ret
                  exact ⟨⟨_, rfl, fun _ => hbig⟩, rfl⟩)
               | (go_round
                  case rel => exact ⟨k + 1, _, by omega, by go_num, rfl⟩
                  case measure => simp [intOf]; omega)
           · go_wp2
             all_goals
               go_ret
               exact ⟨⟨_, rfl, fun _ => hbig⟩, rfl⟩)
  · go_enter Tryf.func5, Tryf.ntmps5
    go_wp2
    all_goals
      go_ret
      exact ⟨⟨true, rfl, fun h => by cases h⟩, rfl⟩
end Go.Proofs.Qxb6617004aFmt
