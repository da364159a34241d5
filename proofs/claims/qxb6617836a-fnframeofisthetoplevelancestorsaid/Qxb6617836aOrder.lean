import Derived.Test.Qxb6617836aPlain
import Derived.Deep.QuietTactic
import Derived.BigQuiet
import Derived.Outline
namespace Go.Proofs.Qxb6617836a
open Go.ChangeShapes Go.WideShapes Go.ChangeAt Go.RowKit
set_option linter.unusedVariables false

/-- the numbers zs lie from the address on -/
def IntsAt (k : IntKind) (w : World) (a : Option Addr) (zs : List Int) : Prop :=
  zs = [] ∨ ∃ b off, a = some ⟨b, off, none⟩ ∧ ∀ i, i < zs.length → w.cell? ⟨b, off + i, none⟩ = some (.int k (zs.getD i 0))
theorem IntsAt.get {k : IntKind} {w : World} {a : Option Addr} {zs : List Int} (h : IntsAt k w a zs) {i : Nat} (hi : i < zs.length) : ∃ b off, a = some ⟨b, off, none⟩ ∧ w.cell? ⟨b, off + i, none⟩ = some (.int k (zs.getD i 0)) := by
  rcases h with rfl | ⟨b, off, e, hc⟩
  · simp at hi
  · exact ⟨b, off, e, hc i hi⟩
theorem IntsAt.later {k : IntKind} {w w' : World} {a : Option Addr} {zs : List Int} (hb : Below w.heap.size w w') (h : IntsAt k w a zs) : IntsAt k w' a zs := by
  rcases h with h | ⟨b, off, e, hc⟩
  · exact Or.inl h
  · exact Or.inr ⟨b, off, e, fun i hi => cell_later hb (hc i hi)⟩
/-- each fits uint32 -/
def Fits (zs : List Int) : Prop := ∀ x ∈ zs, (Lit.int .u32 x).wf = true
theorem Fits.at {zs : List Int} (h : Fits zs) (i : Nat) : (Lit.int .u32 (zs.getD i 0)).wf = true := by
  by_cases hi : i < zs.length
  · have : zs.getD i 0 = zs[i] := by simp [List.getD_eq_getElem?_getD, hi]
    rw [this]; exact h _ (List.getElem_mem hi)
  · have : zs.getD i 0 = 0 := by simp [List.getD_eq_getElem?_getD, hi]
    rw [this]; decide

theorem dr2 (w : World) (a b : Nat) : (w.drewN a).drewN b = w.drewN (a + b) := by simp
theorem zero3 (w : World) : (zeroValue 3).run Try.prog w = .ok (.int .i64 0) w := by kernel_rfl
/-- the map of the last places -/
def lastMap (keys : List Int) (k : Nat) (x : Int) : Option Value := (lastTo keys k x).map fun j => .int .i64 (j : Int)
theorem lastMap_succ (keys : List Int) (k : Nat) (hk : k < keys.length) (y : Int) : (if y = keys.getD k 0 then some (Value.int .i64 (k : Int)) else lastMap keys k y) = lastMap keys (k + 1) y := by
  have e : keys[k]? = some (keys.getD k 0) := by simp [List.getD_eq_getElem?_getD, hk]
  unfold lastMap
  conv => rhs; unfold lastTo
  rw [e]
  by_cases h : y = keys.getD k 0
  · rw [if_pos h, if_pos (by rw [h])]; rfl
  · rw [if_neg h, if_neg (fun h' => h (Option.some.inj h').symm)]

/-- in order below k -/
def ordTo (W : Wins) (k : Nat) : Prop := ∀ i, i < k → W.at (W.keys.getD i 0) = some i → W.parents.getD i 0 ≠ W.roots.getD i 0 → ∀ j, W.at (W.parents.getD i 0) = some j → j < i
theorem ordTo_succ {W : Wins} {k : Nat} (h : ordTo W k) (hk : W.at (W.keys.getD k 0) = some k → W.parents.getD k 0 ≠ W.roots.getD k 0 → ∀ j, W.at (W.parents.getD k 0) = some j → j < k) : ordTo W (k + 1) := by
  intro i hi h1 h2 j h3
  by_cases e : i = k
  · subst e; exact hk h1 h2 j h3
  · exact h i (by omega) h1 h2 j h3
theorem ordered_of {W : Wins} {k : Nat} (h : ordTo W k) (hk : W.keys.length ≤ k) : W.ordered := by
  intro i h1 h2 j h3
  exact h i (by have := (lastTo_lt h1).1; omega) h1 h2 j h3

/-- what x11b1Order hands back -/
def ordRes (W : Wins) (B : Nat) (e : Ending) : Prop := ∃ b : Bool, e = .returned (.tuple #[.map (some B), .bool b]) ∧ (b = true → W.ordered)

set_option maxHeartbeats 2000000 in
theorem order_any (W : Wins) (ak ap ar : Option Addr) (ck cp cr : Nat) (w : World) (he : W.even) (hn : W.keys.length ≤ 16384) (hk : IntsAt .u32 w ak W.keys) (hp : IntsAt .u32 w ap W.parents) (hr : IntsAt .u32 w ar W.roots)
    (fk : Fits W.keys) (fp : Fits W.parents) :
    Calls Try.prog 9 #[.slice ak W.keys.length ck, .slice ap W.keys.length cp, .slice ar W.keys.length cr] w fun e w' => ordRes W w.heap.size e ∧ MapF w' w.heap.size W.keys.length (lastMap W.keys W.keys.length) ∧ Below w.heap.size w w' := by
  obtain ⟨n, hn'⟩ : ∃ n, n = W.keys.length := ⟨_, rfl⟩
  rw [← hn'] at hn ⊢
  have HN := hide hn'
  have HE := hide he
  have HK := hide hk
  have HP := hide hp
  have HR := hide hr
  have FK := hide fk
  have FP := hide fp
  clear hn' he hk hp hr fk fp
  have hmm := @run_makeMap Try.prog
  go_enter Try.func9, Try.ntmps9
  go_wp2
  go_loopw [9] (fun i wr => ∃ k : Nat, k ≤ n ∧ i = .int .i64 k ∧ Hid (MapF wr w.heap.size k (lastMap W.keys k)) ∧ Below w.heap.size w wr) (fun i _ => n - (intOf i).toNat)
  case atStart => exact ⟨0, Nat.zero_le _, rfl, mapF_made w, (Below.refl _ _).alloc (Nat.le_refl _) _⟩
  case round =>
    clear hmm
    obtain ⟨k, hk, rfl, HM, hb⟩ := hrel
    by_cases hlt : k < n
    · have hlt' : k < W.keys.length := by rw [← HN.out]; exact hlt
      obtain ⟨b, off, rfl, hc⟩ := (HK.out.later hb).get hlt'
      obtain ⟨x, hx⟩ : ∃ x, W.keys.getD k 0 = x := ⟨_, rfl⟩
      have hwx : (Lit.int .u32 x).wf = true := by rw [← hx]; exact FK.out.at k
      rw [hx] at hc
      obtain ⟨w1, hrun, hF1, hg1⟩ := HM.out.put Try.underlying26 (by unfold maxLen; omega) hwx (.int .i64 (k : Int))
      have HM1 : Hid (MapF w1 w.heap.size (k + 1) (lastMap W.keys (k + 1))) := hF1.congr (Nat.le_refl _) (fun y => by rw [← hx]; exact lastMap_succ W.keys k hlt' y)
      have hb1 : Below w.heap.size w w1 := hb.grown hg1 hb.size (fun j h => by cases h; exact Nat.le_refl _)
      clear hF1 hg1 HM hb hx hwx
      go_wp2
      go_roundw
      case rel => exact ⟨k + 1, by omega, by go_num, HM1, hb1⟩
      case measure => simp [intOf]; omega
    · have e : k = n := by omega
      subst e
      obtain ⟨w1, rfl⟩ : ∃ w1 : World, w1 = wr := ⟨_, rfl⟩
      clear hlt hk
      go_wp2
      go_loopw [10] (fun i wr => ∃ j q : Nat, j ≤ k ∧ i = .int .i64 j ∧ Hid (ordTo W j) ∧ wr = w1.drewN q) (fun i _ => k - (intOf i).toNat)
      case atStart => exact ⟨0, 0, Nat.zero_le _, rfl, fun i hi => by omega, rfl⟩
      case round =>
        obtain ⟨j, q, hj, rfl, HO, hwr⟩ := hrel
        have HW := hide hwr
        clear hwr
        have hbr : Below w1.heap.size w1 wr := by rw [HW.out]; exact below_drewN (Below.refl _ _) _
        have hbw := bthen hb hbr
        have HMr := hide (HM.out.below hbr)
        by_cases hlt : j < k
        · have hlt' : j < W.keys.length := by rw [← HN.out]; exact hlt
          obtain ⟨b, off, rfl, hc⟩ := (HK.out.later hbw).get hlt'
          obtain ⟨bp, op, rfl, hcp⟩ := (HP.out.later hbw).get (i := j) (by rw [HE.out.2.1]; exact hlt')
          obtain ⟨br, or, rfl, hcr⟩ := (HR.out.later hbw).get (i := j) (by rw [HE.out.2.2.1]; exact hlt')
          obtain ⟨x, hx⟩ : ∃ x, W.keys.getD j 0 = x := ⟨_, rfl⟩
          obtain ⟨p, hp⟩ : ∃ p, W.parents.getD j 0 = p := ⟨_, rfl⟩
          obtain ⟨r, hr⟩ : ∃ r, W.roots.getD j 0 = r := ⟨_, rfl⟩
          have hwx : (Lit.int .u32 x).wf = true := by rw [← hx]; exact FK.out.at j
          have hwp : (Lit.int .u32 p).wf = true := by rw [← hp]; exact FP.out.at j
          rw [hx] at hc
          rw [hp] at hcp
          rw [hr] at hcr
          obtain ⟨e, he, hje⟩ := lastTo_ge (keys := W.keys) (k := W.keys.length) (i := j) (x := x) hlt' (by rw [← hx]; simp [List.getD_eq_getElem?_getD, hlt'])
          have hlx := HMr.out.get Try.underlying26 (zero3 wr) hwx
          have hev : (lastMap W.keys k x).getD (.int .i64 0) = .int .i64 (e : Int) := by unfold lastMap; rw [HN.out, he]; rfl
          rw [hev] at hlx
          have hjn : (j : Int) < (k : Int) := by omega
          have HX := hide hx
          have HPa := hide hp
          have HRo := hide hr
          have HAt : Hid (W.at x = some e) := he
          clear hx hp hr he hev hwx
          by_cases c1 : e = j
          · subst c1
            have hne1 : ((e : Int) != (e : Int)) = false := by simp
            by_cases c2 : p = r
            · subst c2
              have HO1 : Hid (ordTo W (e + 1)) := ordTo_succ HO.out (fun _ h => absurd (HPa.out.trans HRo.out.symm) h)
              go_wp2
              go_quiet (fail)
              go_wp2
              go_roundw
              case rel => exact ⟨e + 1, _, by omega, by go_num, HO1, by rw [HW.out]; exact dr2 _ _ _⟩
              case measure => simp [intOf]; omega
            · have hne2 : (p != r) = true := by simp [c2]
              cases hat : W.at p with
              | none =>
                have hlp : ∀ m, (Instr.lookup 26 (.map (some w.heap.size)) (.int .u32 p) true).run Try.prog (wr.drewN m) = .ok (.tuple #[.int .i64 0, .bool false]) (wr.drewN m) := fun m => by
                  have h := (HMr.out.below (below_drewN (Below.refl _ _) m)).look Try.underlying26 (zero3 (wr.drewN m)) hwp
                  rw [show lastMap W.keys k p = none from by unfold lastMap; rw [HN.out]; unfold Wins.at at hat; rw [hat]; rfl] at h
                  exact h
                have HO1 : Hid (ordTo W (e + 1)) := ordTo_succ HO.out (fun _ _ j h => by rw [HPa.out, hat] at h; simp at h)
                clear hat
                go_wp2
                go_quiet (fail)
                go_wp2
                go_roundw
                case rel => exact ⟨e + 1, _, by omega, by go_num, HO1, by rw [HW.out]; exact dr2 _ _ _⟩
                case measure => simp [intOf]; omega
              | some j' =>
                have hlp : ∀ m, (Instr.lookup 26 (.map (some w.heap.size)) (.int .u32 p) true).run Try.prog (wr.drewN m) = .ok (.tuple #[.int .i64 (j' : Int), .bool true]) (wr.drewN m) := fun m => by
                  have h := (HMr.out.below (below_drewN (Below.refl _ _) m)).look Try.underlying26 (zero3 (wr.drewN m)) hwp
                  rw [show lastMap W.keys k p = some (.int .i64 (j' : Int)) from by unfold lastMap; rw [HN.out]; unfold Wins.at at hat; rw [hat]; rfl] at h
                  exact h
                have HA2 : Hid (W.at p = some j') := hat
                clear hat
                by_cases c3 : e ≤ j'
                · have hge : (e : Int) ≤ (j' : Int) := by omega
                  go_wp2
                  go_quiet (fail)
                  go_wp2
                  go_ret2
                  exact ⟨⟨false, rfl, by simp⟩, HMr.out.below (below_drewN (Below.refl _ _) _), below_drewN hbw _⟩
                · have hge : ¬ (e : Int) ≤ (j' : Int) := by omega
                  have HO1 : Hid (ordTo W (e + 1)) := ordTo_succ HO.out (fun _ _ j h => by rw [HPa.out, HA2.out] at h; have := Option.some.inj h; omega)
                  go_wp2
                  go_quiet (fail)
                  go_wp2
                  go_roundw
                  case rel => exact ⟨e + 1, _, by omega, by go_num, HO1, by rw [HW.out]; exact dr2 _ _ _⟩
                  case measure => simp [intOf]; omega
          · have hne1 : ((e : Int) != (j : Int)) = true := by simp; omega
            have HO1 : Hid (ordTo W (j + 1)) := ordTo_succ HO.out (fun h => by rw [HX.out, HAt.out] at h; exact absurd (Option.some.inj h) c1)
            go_wp2
            go_roundw
            case rel => exact ⟨j + 1, _, by omega, by go_num, HO1, HW.out⟩
            case measure => simp [intOf]; omega
        · have e : j = k := by omega
          subst e
          go_wp2
          go_ret2
          exact ⟨⟨true, rfl, fun _ => ordered_of HO.out (by rw [HN.out]; exact Nat.le_refl _)⟩, HMr.out, hbw⟩
end Go.Proofs.Qxb6617836a
