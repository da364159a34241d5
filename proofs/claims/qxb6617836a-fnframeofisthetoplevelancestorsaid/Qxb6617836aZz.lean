import Derived.Test.Qxb6617836aFrame
import Derived.BigRegion
namespace Go.Proofs.Qxb6617836a
open Go.ChangeShapes Go.WideShapes Go.ChangeAt Go.RowKit
set_option linter.unusedVariables false

theorem winMap_succ (W : Wins) (k : Nat) (hk : k < W.keys.length) (y : Int) : (if y = W.keys.getD k 0 then some (win (W.ids.getD k 0) (W.parents.getD k 0) (W.roots.getD k 0) (W.pids.getD k 0)) else winMap W k y) = winMap W (k + 1) y := by
  have e : W.keys[k]? = some (W.keys.getD k 0) := by simp [List.getD_eq_getElem?_getD, hk]
  unfold winMap
  conv => rhs; unfold lastTo
  rw [e]
  by_cases h : y = W.keys.getD k 0
  · rw [if_pos h, if_pos (by rw [h])]; rfl
  · rw [if_neg h, if_neg (fun h' => h (Option.some.inj h').symm)]

theorem frame_empty {W : Wins} (h : W.keys = []) (id p r : Int) : W.frame id p r = none := by
  unfold Wins.frame
  by_cases c : p = r
  · rw [if_pos c]
  · rw [if_neg c]; exact W.up_none c (by unfold Wins.at; rw [h]; rfl)

set_option maxHeartbeats 4000000 in
theorem zz_some (W : Wins) (ak : Addr) (ai ap ar aq : Option Addr) (ck ci cp cr cq : Nat) (id p r pid : Int) (w : World) (he : W.even) (ho : W.ordered) (hn : W.keys.length ≤ 16384)
    (hk : IntsAt .u32 w (some ak) W.keys) (hi : IntsAt .u32 w ai W.ids) (hp : IntsAt .u32 w ap W.parents) (hr : IntsAt .u32 w ar W.roots) (hq : IntsAt .i64 w aq W.pids)
    (fk : Fits W.keys) (fp : Fits W.parents) (hwp : (Lit.int .u32 p).wf = true) :
    Calls Try.prog 10 #[.slice (some ak) W.keys.length ck, .slice ai W.keys.length ci, .slice ap W.keys.length cp, .slice ar W.keys.length cr, .slice aq W.keys.length cq, .int .u32 id, .int .u32 p, .int .u32 r, .int .i64 pid] w fun e w' => e = .returned (frameVal (W.frame id p r)) ∧ Below w.heap.size w w' := by
  obtain ⟨n, hn'⟩ : ∃ n, n = W.keys.length := ⟨_, rfl⟩
  rw [← hn'] at hn ⊢
  have HN := hide hn'
  have HE := hide he
  have HO := hide ho
  have HK := hide hk
  have HI := hide hi
  have HP := hide hp
  have HR := hide hr
  have HQ := hide hq
  have FK := hide fk
  have FP := hide fp
  have HWP := hide hwp
  clear hn' he ho hk hi hp hr hq fk fp hwp
  have hmm := @run_makeMap Try.prog
  have hnn := fun w => run_neq_slice_nil_any (P := Try.prog) w 22 24 (some ak) n ck 0 0 Try.underlying22
  simp only [Option.isNone_some, Bool.not_false] at hnn
  go_enter Try.func10, Try.ntmps10
  go_wp2
  go_loopw [21] (fun i wr => ∃ k : Nat, k ≤ n ∧ i = .int .i64 k ∧ Hid (MapF wr w.heap.size k (winMap W k)) ∧ Below w.heap.size w wr) (fun i _ => n - (intOf i).toNat)
  case atStart => exact ⟨0, Nat.zero_le _, rfl, mapF_made w, (Below.refl _ _).alloc (Nat.le_refl _) _⟩
  case round =>
    clear hmm hnn
    obtain ⟨k, hk, rfl, HM, hb⟩ := hrel
    by_cases hlt : k < n
    · have hlt' : k < W.keys.length := by rw [← HN.out]; exact hlt
      obtain ⟨b0, o0, rfl, hc0⟩ : ∃ b off, ak = ⟨b, off, none⟩ ∧ wr.cell? ⟨b, off + k, none⟩ = some (.int .u32 (W.keys.getD k 0)) := by
        obtain ⟨b, off, e, h⟩ := (HK.out.later hb).get hlt'
        exact ⟨b, off, Option.some.inj e, h⟩
      obtain ⟨b1, o1, rfl, hc1⟩ := (HI.out.later hb).get (i := k) (by rw [HE.out.1]; exact hlt')
      obtain ⟨b2, o2, rfl, hc2⟩ := (HP.out.later hb).get (i := k) (by rw [HE.out.2.1]; exact hlt')
      obtain ⟨b3, o3, rfl, hc3⟩ := (HR.out.later hb).get (i := k) (by rw [HE.out.2.2.1]; exact hlt')
      obtain ⟨b4, o4, rfl, hc4⟩ := (HQ.out.later hb).get (i := k) (by rw [HE.out.2.2.2]; exact hlt')
      obtain ⟨w1, hrun, hF1, hg1⟩ := (HM.out.below (w' := wr.drew) (Below.refl _ _).drew).put Try.underlying44 (by unfold maxLen; omega) (FK.out.at k) (win (W.ids.getD k 0) (W.parents.getD k 0) (W.roots.getD k 0) (W.pids.getD k 0))
      have HM1 : Hid (MapF w1 w.heap.size (k + 1) (winMap W (k + 1))) := hF1.congr (Nat.le_refl _) (fun y => winMap_succ W k hlt' y)
      have hb1 : Below w.heap.size w w1 := Below.grown hb.drew hg1 hb.size (fun j h => by cases h; exact Nat.le_refl _)
      clear hF1 hg1 HM hb
      unfold win at hrun
      generalize W.keys.getD k 0 = x0 at *
      generalize W.ids.getD k 0 = x1 at *
      generalize W.parents.getD k 0 = x2 at *
      generalize W.roots.getD k 0 = x3 at *
      generalize W.pids.getD k 0 = x4 at *
      go_wp2
      go_region
      go_wp2
      go_roundw
      case rel => exact ⟨k + 1, by omega, by go_num, HM1, hb1⟩
      case measure => simp [intOf]; omega
    · have e : k = n := by omega
      subst e
      have HMn : Hid (MapF wr w.heap.size W.keys.length (winMap W W.keys.length)) := by rw [← HN.out]; exact HM.out
      clear HM hlt hk
      have hb2 := hb.alloc hb.size (.cells #[.int .u32 id, .int .u32 p, .int .u32 r, .int .i64 pid] 47)
      have HC := hide (frame_any W w.heap.size id p r pid (wr.alloc (.cells #[.int .u32 id, .int .u32 p, .int .u32 r, .int .i64 pid] 47)) HO.out (HMn.out.below ((Below.refl _ _).alloc (Nat.le_refl _) _)) FP.out HWP.out)
      go_wp2_with fail
      refine HC.out.mono ?_
      rintro e w1 ⟨rfl, hb3⟩
      clear HC
      have hb4 := bthen hb2 hb3
      clear hb2 hb3
      unfold frameVal
      go_wp2
      go_ret2
      exact ⟨rfl, hb4⟩

set_option maxHeartbeats 4000000 in
theorem zz_none (ai ap ar aq : Option Addr) (n0 n1 n2 n3 n4 ck ci cp cr cq : Nat) (id p r pid : Int) (w : World) (hwp : (Lit.int .u32 p).wf = true) :
    Calls Try.prog 10 #[.slice none n0 ck, .slice ai n1 ci, .slice ap n2 cp, .slice ar n3 cr, .slice aq n4 cq, .int .u32 id, .int .u32 p, .int .u32 r, .int .i64 pid] w fun e w' => e = .returned (frameVal none) ∧ Below w.heap.size w w' := by
  have hnn := fun w => run_neq_slice_nil_any (P := Try.prog) w 22 24 none n0 ck 0 0 Try.underlying22
  simp only [Option.isNone_none, Bool.not_true] at hnn
  have hb2 := (Below.refl w.heap.size w).alloc (Nat.le_refl _) (.cells #[.int .u32 id, .int .u32 p, .int .u32 r, .int .i64 pid] 47)
  have HC := hide (frame_nil id p r pid (w.alloc (.cells #[.int .u32 id, .int .u32 p, .int .u32 r, .int .i64 pid] 47)) hwp)
  go_enter Try.func10, Try.ntmps10
  go_wp2_with fail
  refine HC.out.mono ?_
  rintro e w1 ⟨rfl, hb3⟩
  clear HC
  have hb4 := bthen hb2 hb3
  clear hb2 hb3
  unfold frameVal
  go_wp2
  go_ret2
  exact ⟨rfl, hb4⟩

/-- ZZFrameOf finds the frame -/
theorem zz_any (W : Wins) (ak ai ap ar aq : Option Addr) (ck ci cp cr cq : Nat) (id p r pid : Int) (w : World) (he : W.even) (ho : W.ordered) (hn : W.keys.length ≤ 16384)
    (hk : IntsAt .u32 w ak W.keys) (hi : IntsAt .u32 w ai W.ids) (hp : IntsAt .u32 w ap W.parents) (hr : IntsAt .u32 w ar W.roots) (hq : IntsAt .i64 w aq W.pids)
    (fk : Fits W.keys) (fp : Fits W.parents) (hwp : (Lit.int .u32 p).wf = true) :
    Calls Try.prog 10 #[.slice ak W.keys.length ck, .slice ai W.keys.length ci, .slice ap W.keys.length cp, .slice ar W.keys.length cr, .slice aq W.keys.length cq, .int .u32 id, .int .u32 p, .int .u32 r, .int .i64 pid] w fun e w' => e = .returned (frameVal (W.frame id p r)) ∧ Below w.heap.size w w' := by
  cases ak with
  | some ak => exact zz_some W ak ai ap ar aq ck ci cp cr cq id p r pid w he ho hn hk hi hp hr hq fk fp hwp
  | none =>
    have e : W.keys = [] := by
      rcases hk with h | ⟨b, off, h, _⟩
      · exact h
      · cases h
    rw [frame_empty e]
    exact zz_none ai ap ar aq _ _ _ _ _ ck ci cp cr cq id p r pid w hwp
end Go.Proofs.Qxb6617836a
