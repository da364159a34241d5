import Derived.Test.Qxb6617836aBytes
import Derived.Deep.OwnRows
import Derived.Deep.RegionHeld3
namespace Go.Proofs.Qxb6617836a
open Go.ChangeShapes Go.WideShapes Go.ChangeAt Go.RowKit
set_option linter.unusedVariables false

/-- a window held by window e shares its way up -/
theorem Wins.frame_child {W : Wins} (ho : W.ordered) {x croot : Int} (cid : Int) {e : Nat} (hx : W.at x = some e) (hne : x ≠ croot) : W.frame cid x croot = W.top e := by
  unfold Wins.frame
  rw [if_neg hne, W.up_step ho hne hx]
theorem Wins.frame_own {W : Wins} (ho : W.ordered) {x : Int} {e : Nat} (hx : W.at x = some e) (hne : W.parents.getD e 0 ≠ W.roots.getD e 0) : W.frame (W.ids.getD e 0) (W.parents.getD e 0) (W.roots.getD e 0) = W.top e := by
  unfold Wins.frame
  rw [if_neg hne]
  unfold Wins.top
  exact (W.up_stable ho e _ _ _ _ (Nat.le_of_lt (lastTo_lt hx).1) (W.low_next ho hx)).symm
theorem Wins.frame_root {W : Wins} {e : Nat} (h : W.parents.getD e 0 = W.roots.getD e 0) : W.frame (W.ids.getD e 0) (W.parents.getD e 0) (W.roots.getD e 0) = none := by
  unfold Wins.frame
  rw [if_pos h]

set_option maxRecDepth 100000 in
set_option maxHeartbeats 8000000 in
theorem child_any (W : Wins) (a0 a1 a2 a3 a4 : Option Addr) (c0 c1 c2 c3 c4 : Nat) (q cid croot cpid : Int) (w : World)
    (s0 : SrcAt .u32 w a0 W.keys) (s1 : SrcAt .u32 w a1 W.ids) (s2 : SrcAt .u32 w a2 W.parents) (s3 : SrcAt .u32 w a3 W.roots) (s4 : SrcAt .i64 w a4 W.pids)
    (fk : Fits W.keys) (fp : Fits W.parents)  :
    Calls Try.prog 3 #[.slice a0 W.keys.length c0, .slice a1 W.ids.length c1, .slice a2 W.parents.length c2, .slice a3 W.roots.length c3, .slice a4 W.pids.length c4, .int .i64 q, .int .u32 cid, .int .u32 croot, .int .i64 cpid] w fun e w' => e = .returned (.bool true) ∧ Below w.heap.size w w' := by
  obtain ⟨n0, hn0⟩ : ∃ n, n = W.keys.length := ⟨_, rfl⟩
  obtain ⟨n1, hn1⟩ : ∃ n, n = W.ids.length := ⟨_, rfl⟩
  obtain ⟨n2, hn2⟩ : ∃ n, n = W.parents.length := ⟨_, rfl⟩
  obtain ⟨n3, hn3⟩ : ∃ n, n = W.roots.length := ⟨_, rfl⟩
  obtain ⟨n4, hn4⟩ : ∃ n, n = W.pids.length := ⟨_, rfl⟩
  rw [← hn0, ← hn1, ← hn2, ← hn3, ← hn4]
  have HN0 := hide hn0
  have HS0 := hide s0
  have HN1 := hide hn1
  have HS1 := hide s1
  have HN2 := hide hn2
  have HS2 := hide s2
  have HN3 := hide hn3
  have HS3 := hide s3
  have HN4 := hide hn4
  have HS4 := hide s4
  have FK := hide fk
  have FP := hide fp
  have HZ := hide (bytes8 a0 a1 a2 a3 a4 n0 n1 n2 n3 n4 c0 c1 c2 c3 c4 q cid croot cpid w)
  clear hn0 hn1 hn2 hn3 hn4 s0 s1 s2 s3 s4 fk fp
  go_enter Try.func3, Try.ntmps3
  go_wp2_with fail
  refine HZ.out.mono ?_
  rintro e w' ⟨⟨b, rfl⟩, rfl⟩
  clear HZ
  cases b
  · go_wp2
    go_ret
    exact ⟨rfl, Below.refl _ _⟩
  by_cases g0 : n0 ≤ 16384
  rotate_left
  · as_aux_lemma =>
      go_wp2
      go_ret
      exact ⟨rfl, Below.refl _ _⟩
  by_cases g1 : n1 ≤ 16384
  rotate_left
  · as_aux_lemma =>
      go_wp2
      go_ret
      exact ⟨rfl, Below.refl _ _⟩
  by_cases g2 : n2 ≤ 16384
  rotate_left
  · as_aux_lemma =>
      go_wp2
      go_ret
      exact ⟨rfl, Below.refl _ _⟩
  by_cases g3 : n3 ≤ 16384
  rotate_left
  · as_aux_lemma =>
      go_wp2
      go_ret
      exact ⟨rfl, Below.refl _ _⟩
  by_cases g4 : n4 ≤ 16384
  rotate_left
  · as_aux_lemma =>
      go_wp2
      go_ret
      exact ⟨rfl, Below.refl _ _⟩
  have hbb := Below.refl w'.heap.size w'
  have hnn0 : ∀ w, (binOp .neq 22 (.slice a0 n0 c0) (.slice none 0 0)).run Try.prog w = .ok (.bool (!a0.isNone)) w := fun w => run_neq_slice_nil_any w 22 24 a0 n0 c0 0 0 Try.underlying22
  go_upto_if 60 with fail
  go_cut [0, 19] (fun v z wr => copied .u32 w' W.keys n0 v wr)
  case first => as_aux_lemma =>
    have hmk := run_make_row' (P := Try.prog) 22 24 (.int .u32 0) 4 Try.underlying22 info24 rfl .i64 .i64 n0 (by omega) (by omega)
    obtain ⟨cs, hcs⟩ : ∃ cs : List Value, cs = vals .u32 W.keys := ⟨_, rfl⟩
    have hcl : cs.length = n0 := by rw [hcs, HN0.out]; exact vals_len _ _
    have HCL := hide hcl
    have HCS := hide hcs
    clear hcl hcs
    have HS := hide (HS0.out.later hbb)
    cases a0 with
    | none =>
      simp only [Option.isNone_none, Bool.not_true] at hnn0
      go_wp2
      go_meet
      exact ⟨_, _, rfl, HS.out.none _, Below.refl _ _⟩
    | some ad =>
      simp only [Option.isNone_some, Bool.not_false] at hnn0
      go_wp2_with (refine wpList_copy_splice rfl (.tmp 64) (.tmp 65) 22 22 rfl 24 Try.underlying22 size24 _ _ _ _ _ _ rfl rfl w'.heap.size 0 (madeCells #[(.int .u32 0)] n0).toList 24 ?hg cs ?hn ?hpos ?hfit ?h1 w'.heap.size w' ?hb (Nat.le_refl _) ?_)
      case hg => rw [heap_new]
      case hn => rw [HCL.out]; exact (Nat.min_self n0).symm
      case hpos =>
        intro _ j v hj
        exact src_cells (HS.out.later ((Below.refl _ _).alloc (Nat.le_refl _) _)) HCS.out hj
      case hfit => rw [HCL.out, made_len, Nat.zero_add]; exact Nat.le_refl _
      case h1 => exact one_cells HCS.out
      case hb => exact (Below.refl _ _).alloc (Nat.le_refl _) _
      intro wn HG hb2
      have HV := hide (row_ints (zs := W.keys) HG.out HCS.out (by rw [HCL.out, made_len]))
      clear HG HS hnn0 hmk HCS HCL
      go_wp2
      go_meet
      exact ⟨_, _, rfl, HV.out, hb2⟩
  case rest =>
    obtain ⟨v0, d0, rfl, hV, hb2⟩ := hcut
    have HV0 := hide hV
    clear hV HS0 hnn0
    obtain ⟨w1, rfl⟩ : ∃ w1 : World, w1 = wc := ⟨_, rfl⟩
    replace hbb := bthen hbb hb2
    clear hb2
    have hnn1 : ∀ w, (binOp .neq 22 (.slice a1 n1 c1) (.slice none 0 0)).run Try.prog w = .ok (.bool (!a1.isNone)) w := fun w => run_neq_slice_nil_any w 22 24 a1 n1 c1 0 0 Try.underlying22
    go_upto_if 69 with fail
    go_cut [1, 20] (fun v z wr => copied .u32 w1 W.ids n1 v wr)
    case first => as_aux_lemma =>
      have hmk := run_make_row' (P := Try.prog) 22 24 (.int .u32 0) 4 Try.underlying22 info24 rfl .i64 .i64 n1 (by omega) (by omega)
      obtain ⟨cs, hcs⟩ : ∃ cs : List Value, cs = vals .u32 W.ids := ⟨_, rfl⟩
      have hcl : cs.length = n1 := by rw [hcs, HN1.out]; exact vals_len _ _
      have HCL := hide hcl
      have HCS := hide hcs
      clear hcl hcs
      have HS := hide (HS1.out.later hbb)
      cases a1 with
      | none =>
        simp only [Option.isNone_none, Bool.not_true] at hnn1
        go_wp2
        go_meet
        exact ⟨_, _, rfl, HS.out.none _, Below.refl _ _⟩
      | some ad =>
        simp only [Option.isNone_some, Bool.not_false] at hnn1
        go_wp2_with (refine wpList_copy_splice rfl (.tmp 73) (.tmp 74) 22 22 rfl 24 Try.underlying22 size24 _ _ _ _ _ _ rfl rfl w1.heap.size 0 (madeCells #[(.int .u32 0)] n1).toList 24 ?hg cs ?hn ?hpos ?hfit ?h1 w1.heap.size w1 ?hb (Nat.le_refl _) ?_)
        case hg => rw [heap_new]
        case hn => rw [HCL.out]; exact (Nat.min_self n1).symm
        case hpos =>
          intro _ j v hj
          exact src_cells (HS.out.later ((Below.refl _ _).alloc (Nat.le_refl _) _)) HCS.out hj
        case hfit => rw [HCL.out, made_len, Nat.zero_add]; exact Nat.le_refl _
        case h1 => exact one_cells HCS.out
        case hb => exact (Below.refl _ _).alloc (Nat.le_refl _) _
        intro wn HG hb2
        have HV := hide (row_ints (zs := W.ids) HG.out HCS.out (by rw [HCL.out, made_len]))
        clear HG HS hnn1 hmk HCS HCL
        go_wp2
        go_meet
        exact ⟨_, _, rfl, HV.out, hb2⟩
    case rest =>
      obtain ⟨v1, d1, rfl, hV, hb2⟩ := hcut
      have HV1 := hide hV
      clear hV HS1 hnn1
      obtain ⟨w2, rfl⟩ : ∃ w2 : World, w2 = wc := ⟨_, rfl⟩
      replace HV0 := hide (HV0.out.later hb2)
      replace hbb := bthen hbb hb2
      clear hb2
      have hnn2 : ∀ w, (binOp .neq 22 (.slice a2 n2 c2) (.slice none 0 0)).run Try.prog w = .ok (.bool (!a2.isNone)) w := fun w => run_neq_slice_nil_any w 22 24 a2 n2 c2 0 0 Try.underlying22
      go_upto_if 78 with fail
      go_cut [2, 21] (fun v z wr => copied .u32 w2 W.parents n2 v wr)
      case first => as_aux_lemma =>
        have hmk := run_make_row' (P := Try.prog) 22 24 (.int .u32 0) 4 Try.underlying22 info24 rfl .i64 .i64 n2 (by omega) (by omega)
        obtain ⟨cs, hcs⟩ : ∃ cs : List Value, cs = vals .u32 W.parents := ⟨_, rfl⟩
        have hcl : cs.length = n2 := by rw [hcs, HN2.out]; exact vals_len _ _
        have HCL := hide hcl
        have HCS := hide hcs
        clear hcl hcs
        have HS := hide (HS2.out.later hbb)
        cases a2 with
        | none =>
          simp only [Option.isNone_none, Bool.not_true] at hnn2
          go_wp2
          go_meet
          exact ⟨_, _, rfl, HS.out.none _, Below.refl _ _⟩
        | some ad =>
          simp only [Option.isNone_some, Bool.not_false] at hnn2
          go_wp2_with (refine wpList_copy_splice rfl (.tmp 82) (.tmp 83) 22 22 rfl 24 Try.underlying22 size24 _ _ _ _ _ _ rfl rfl w2.heap.size 0 (madeCells #[(.int .u32 0)] n2).toList 24 ?hg cs ?hn ?hpos ?hfit ?h1 w2.heap.size w2 ?hb (Nat.le_refl _) ?_)
          case hg => rw [heap_new]
          case hn => rw [HCL.out]; exact (Nat.min_self n2).symm
          case hpos =>
            intro _ j v hj
            exact src_cells (HS.out.later ((Below.refl _ _).alloc (Nat.le_refl _) _)) HCS.out hj
          case hfit => rw [HCL.out, made_len, Nat.zero_add]; exact Nat.le_refl _
          case h1 => exact one_cells HCS.out
          case hb => exact (Below.refl _ _).alloc (Nat.le_refl _) _
          intro wn HG hb2
          have HV := hide (row_ints (zs := W.parents) HG.out HCS.out (by rw [HCL.out, made_len]))
          clear HG HS hnn2 hmk HCS HCL
          go_wp2
          go_meet
          exact ⟨_, _, rfl, HV.out, hb2⟩
      case rest =>
        obtain ⟨v2, d2, rfl, hV, hb2⟩ := hcut
        have HV2 := hide hV
        clear hV HS2 hnn2
        obtain ⟨w3, rfl⟩ : ∃ w3 : World, w3 = wc := ⟨_, rfl⟩
        replace HV0 := hide (HV0.out.later hb2)
        replace HV1 := hide (HV1.out.later hb2)
        replace hbb := bthen hbb hb2
        clear hb2
        have hnn3 : ∀ w, (binOp .neq 22 (.slice a3 n3 c3) (.slice none 0 0)).run Try.prog w = .ok (.bool (!a3.isNone)) w := fun w => run_neq_slice_nil_any w 22 24 a3 n3 c3 0 0 Try.underlying22
        go_upto_if 87 with fail
        go_cut [3, 22] (fun v z wr => copied .u32 w3 W.roots n3 v wr)
        case first => as_aux_lemma =>
          have hmk := run_make_row' (P := Try.prog) 22 24 (.int .u32 0) 4 Try.underlying22 info24 rfl .i64 .i64 n3 (by omega) (by omega)
          obtain ⟨cs, hcs⟩ : ∃ cs : List Value, cs = vals .u32 W.roots := ⟨_, rfl⟩
          have hcl : cs.length = n3 := by rw [hcs, HN3.out]; exact vals_len _ _
          have HCL := hide hcl
          have HCS := hide hcs
          clear hcl hcs
          have HS := hide (HS3.out.later hbb)
          cases a3 with
          | none =>
            simp only [Option.isNone_none, Bool.not_true] at hnn3
            go_wp2
            go_meet
            exact ⟨_, _, rfl, HS.out.none _, Below.refl _ _⟩
          | some ad =>
            simp only [Option.isNone_some, Bool.not_false] at hnn3
            go_wp2_with (refine wpList_copy_splice rfl (.tmp 91) (.tmp 92) 22 22 rfl 24 Try.underlying22 size24 _ _ _ _ _ _ rfl rfl w3.heap.size 0 (madeCells #[(.int .u32 0)] n3).toList 24 ?hg cs ?hn ?hpos ?hfit ?h1 w3.heap.size w3 ?hb (Nat.le_refl _) ?_)
            case hg => rw [heap_new]
            case hn => rw [HCL.out]; exact (Nat.min_self n3).symm
            case hpos =>
              intro _ j v hj
              exact src_cells (HS.out.later ((Below.refl _ _).alloc (Nat.le_refl _) _)) HCS.out hj
            case hfit => rw [HCL.out, made_len, Nat.zero_add]; exact Nat.le_refl _
            case h1 => exact one_cells HCS.out
            case hb => exact (Below.refl _ _).alloc (Nat.le_refl _) _
            intro wn HG hb2
            have HV := hide (row_ints (zs := W.roots) HG.out HCS.out (by rw [HCL.out, made_len]))
            clear HG HS hnn3 hmk HCS HCL
            go_wp2
            go_meet
            exact ⟨_, _, rfl, HV.out, hb2⟩
        case rest =>
          obtain ⟨v3, d3, rfl, hV, hb2⟩ := hcut
          have HV3 := hide hV
          clear hV HS3 hnn3
          obtain ⟨w4, rfl⟩ : ∃ w4 : World, w4 = wc := ⟨_, rfl⟩
          replace HV0 := hide (HV0.out.later hb2)
          replace HV1 := hide (HV1.out.later hb2)
          replace HV2 := hide (HV2.out.later hb2)
          replace hbb := bthen hbb hb2
          clear hb2
          have hnn4 : ∀ w, (binOp .neq 23 (.slice a4 n4 c4) (.slice none 0 0)).run Try.prog w = .ok (.bool (!a4.isNone)) w := fun w => run_neq_slice_nil_any w 23 3 a4 n4 c4 0 0 Try.underlying23
          go_upto_if 96 with fail
          go_cut [4, 23] (fun v z wr => copied .i64 w4 W.pids n4 v wr)
          case first => as_aux_lemma =>
            have hmk := run_make_row' (P := Try.prog) 23 3 (.int .i64 0) 8 Try.underlying23 info3 rfl .i64 .i64 n4 (by omega) (by omega)
            obtain ⟨cs, hcs⟩ : ∃ cs : List Value, cs = vals .i64 W.pids := ⟨_, rfl⟩
            have hcl : cs.length = n4 := by rw [hcs, HN4.out]; exact vals_len _ _
            have HCL := hide hcl
            have HCS := hide hcs
            clear hcl hcs
            have HS := hide (HS4.out.later hbb)
            cases a4 with
            | none =>
              simp only [Option.isNone_none, Bool.not_true] at hnn4
              go_wp2
              go_meet
              exact ⟨_, _, rfl, HS.out.none _, Below.refl _ _⟩
            | some ad =>
              simp only [Option.isNone_some, Bool.not_false] at hnn4
              go_wp2_with (refine wpList_copy_splice rfl (.tmp 100) (.tmp 101) 23 23 rfl 3 Try.underlying23 size3 _ _ _ _ _ _ rfl rfl w4.heap.size 0 (madeCells #[(.int .i64 0)] n4).toList 3 ?hg cs ?hn ?hpos ?hfit ?h1 w4.heap.size w4 ?hb (Nat.le_refl _) ?_)
              case hg => rw [heap_new]
              case hn => rw [HCL.out]; exact (Nat.min_self n4).symm
              case hpos =>
                intro _ j v hj
                exact src_cells (HS.out.later ((Below.refl _ _).alloc (Nat.le_refl _) _)) HCS.out hj
              case hfit => rw [HCL.out, made_len, Nat.zero_add]; exact Nat.le_refl _
              case h1 => exact one_cells HCS.out
              case hb => exact (Below.refl _ _).alloc (Nat.le_refl _) _
              intro wn HG hb2
              have HV := hide (row_ints (zs := W.pids) HG.out HCS.out (by rw [HCL.out, made_len]))
              clear HG HS hnn4 hmk HCS HCL
              go_wp2
              go_meet
              exact ⟨_, _, rfl, HV.out, hb2⟩
          case rest =>
            obtain ⟨v4, d4, rfl, hV, hb2⟩ := hcut
            have HV4 := hide hV
            clear hV HS4 hnn4
            obtain ⟨w5, rfl⟩ : ∃ w5 : World, w5 = wc := ⟨_, rfl⟩
            replace HV0 := hide (HV0.out.later hb2)
            replace HV1 := hide (HV1.out.later hb2)
            replace HV2 := hide (HV2.out.later hb2)
            replace HV3 := hide (HV3.out.later hb2)
            replace hbb := bthen hbb hb2
            clear hb2
            by_cases e1 : n1 = n0
            rotate_left
            · as_aux_lemma =>
                have h1 : ((n1 : Int) != (n0 : Int)) = true := by simp; omega
                go_wp2
                go_ret
                exact ⟨rfl, hbb⟩
            have h1 : ((n1 : Int) != (n0 : Int)) = false := by simp; omega
            by_cases e2 : n2 = n0
            rotate_left
            · as_aux_lemma =>
                have h2 : ((n2 : Int) != (n0 : Int)) = true := by simp; omega
                go_wp2
                go_ret
                exact ⟨rfl, hbb⟩
            have h2 : ((n2 : Int) != (n0 : Int)) = false := by simp; omega
            by_cases e3 : n3 = n0
            rotate_left
            · as_aux_lemma =>
                have h3 : ((n3 : Int) != (n0 : Int)) = true := by simp; omega
                go_wp2
                go_ret
                exact ⟨rfl, hbb⟩
            have h3 : ((n3 : Int) != (n0 : Int)) = false := by simp; omega
            by_cases e4 : n4 = n0
            rotate_left
            · as_aux_lemma =>
                have h4 : ((n4 : Int) != (n0 : Int)) = true := by simp; omega
                go_wp2
                go_ret
                exact ⟨rfl, hbb⟩
            subst e1 e2 e3 e4
            clear h1 h2 h3
            obtain ⟨n, rfl⟩ : ∃ n, n = n4 := ⟨_, rfl⟩
            have HEv : Hid W.even := ⟨HN1.out.symm.trans HN0.out, HN2.out.symm.trans HN0.out, HN3.out.symm.trans HN0.out, HN4.out.symm.trans HN0.out⟩
            by_cases q0 : q < 0
            · as_aux_lemma =>
                go_wp2
                go_ret
                exact ⟨rfl, hbb⟩
            obtain ⟨k, rfl⟩ : ∃ k : Nat, q = k := ⟨q.toNat, by omega⟩
            by_cases q1 : k < n
            rotate_left
            · as_aux_lemma =>
                go_wp2
                go_ret
                exact ⟨rfl, hbb⟩
            have HC := hide (order_any W v0 v2 v3 d0 d2 d3 w5 HEv.out (by rw [← HN0.out]; exact g0) HV0.out HV2.out HV3.out FK.out FP.out)
            rw [← HN0.out] at HC
            go_wp2_with fail
            refine HC.out.mono ?_
            rintro e w6 ⟨⟨b, rfl, ho⟩, hM, hb6⟩
            clear HC
            replace hbb := bthen hbb hb6
            cases b
            · as_aux_lemma =>
                clear ho hM hb6
                go_wp2
                go_ret
                exact ⟨rfl, hbb⟩
            have HO := hide (ho rfl)
            have HM := hide hM
            replace HV0 := hide (HV0.out.later hb6)
            replace HV1 := hide (HV1.out.later hb6)
            replace HV2 := hide (HV2.out.later hb6)
            replace HV3 := hide (HV3.out.later hb6)
            replace HV4 := hide (HV4.out.later hb6)
            clear ho hM hb6
            have hk' : k < W.keys.length := by rw [← HN0.out]; exact q1
            obtain ⟨b0, o0, rfl, hc0⟩ := HV0.out.get hk'
            obtain ⟨x, hx⟩ : ∃ x, W.keys.getD k 0 = x := ⟨_, rfl⟩
            have hwx : (Lit.int .u32 x).wf = true := by rw [← hx]; exact FK.out.at k
            rw [hx] at hc0
            obtain ⟨e, he, hke⟩ := lastTo_ge (keys := W.keys) (k := W.keys.length) (i := k) (x := x) hk' (by rw [← hx]; simp [List.getD_eq_getElem?_getD, hk'])
            have HAt : Hid (W.at x = some e) := he
            have HX := hide hx
            clear hx
            by_cases cr : croot = x
            · as_aux_lemma =>
                clear he
                subst cr
                go_wp2
                go_ret
                exact ⟨rfl, hbb⟩
            have hcr : (croot == x) = false := by simp [cr]
            have hel : e < W.keys.length := (lastTo_lt he).1
            have hen : e < n := by rw [HN0.out]; exact hel
            have hlx := HM.out.get Try.underlying26 (zero3 w6) hwx
            have hev : (lastMap W.keys n x).getD (.int .i64 0) = .int .i64 (e : Int) := by unfold lastMap; rw [HN0.out, he]; rfl
            rw [hev] at hlx
            obtain ⟨b1, o1, rfl, hc1⟩ := HV1.out.get (i := e) (by rw [HEv.out.1]; exact hel)
            obtain ⟨b2, o2, rfl, hc2⟩ := HV2.out.get (i := e) (by rw [HEv.out.2.1]; exact hel)
            obtain ⟨b3, o3, rfl, hc3⟩ := HV3.out.get (i := e) (by rw [HEv.out.2.2.1]; exact hel)
            obtain ⟨b4, o4, rfl, hc4⟩ := HV4.out.get (i := e) (by rw [HEv.out.2.2.2]; exact hel)
            have HCz : Hid (∀ (id p r pid : Int) (w1 : World), Below w6.heap.size w6 w1 → (Lit.int .u32 p).wf = true → Calls Try.prog 10 #[.slice (some ⟨b0, o0, none⟩) n d0, .slice (some ⟨b1, o1, none⟩) n d1, .slice (some ⟨b2, o2, none⟩) n d2, .slice (some ⟨b3, o3, none⟩) n d3, .slice (some ⟨b4, o4, none⟩) n d4, .int .u32 id, .int .u32 p, .int .u32 r, .int .i64 pid] w1 fun e w' => e = .returned (frameVal (W.frame id p r)) ∧ Below w1.heap.size w1 w') := by
              intro id p r pid w1 hb hw
              have := zz_any W (some ⟨b0, o0, none⟩) (some ⟨b1, o1, none⟩) (some ⟨b2, o2, none⟩) (some ⟨b3, o3, none⟩) (some ⟨b4, o4, none⟩) d0 d1 d2 d3 d4 id p r pid w1 HEv.out HO.out (by rw [← HN0.out]; exact g0) (HV0.out.later hb) (HV1.out.later hb) (HV2.out.later hb) (HV3.out.later hb) (HV4.out.later hb) FK.out FP.out hw
              rwa [← HN0.out] at this
            have HF1 := hide (W.frame_child HO.out cid HAt.out (Ne.symm cr))
            have hwp := FP.out.at e
            have HWp := hide hwp
            have HC1 := hide (HCz.out cid x croot cpid w6 (Below.refl _ _) hwx)
            rw [HF1.out] at HC1
            clear he hev hke HX HM hwp
            have HT : Hid ((W.parents.getD e 0 = W.roots.getD e 0 ∧ W.top e = some (W.ids.getD e 0) ∧ W.frame (W.ids.getD e 0) (W.parents.getD e 0) (W.roots.getD e 0) = none) ∨ (W.parents.getD e 0 ≠ W.roots.getD e 0 ∧ W.frame (W.ids.getD e 0) (W.parents.getD e 0) (W.roots.getD e 0) = W.top e)) := by
              by_cases h : W.parents.getD e 0 = W.roots.getD e 0
              · exact Or.inl ⟨h, W.top_root h, W.frame_root h⟩
              · exact Or.inr ⟨h, W.frame_own HO.out HAt.out h⟩
            obtain ⟨F2, hF2⟩ : ∃ F2, W.frame (W.ids.getD e 0) (W.parents.getD e 0) (W.roots.getD e 0) = F2 := ⟨_, rfl⟩
            have HF2 := hide hF2
            rw [hF2] at HT
            clear hF2 HF1
            generalize W.top e = F1 at *
            generalize W.ids.getD e 0 = i1 at *
            generalize W.parents.getD e 0 = p1 at *
            generalize W.roots.getD e 0 = r1 at *
            generalize W.pids.getD e 0 = t1 at *
            have HC2 : Hid (∀ w1, Below w6.heap.size w6 w1 → Calls Try.prog 10 #[.slice (some ⟨b0, o0, none⟩) n d0, .slice (some ⟨b1, o1, none⟩) n d1, .slice (some ⟨b2, o2, none⟩) n d2, .slice (some ⟨b3, o3, none⟩) n d3, .slice (some ⟨b4, o4, none⟩) n d4, .int .u32 i1, .int .u32 p1, .int .u32 r1, .int .i64 t1] w1 fun e' w' => e' = .returned (.tuple #[.int .u32 (F2.getD 0), .bool F2.isSome]) ∧ (w'.cell? ⟨b1, o1 + e, none⟩ = some (.int .u32 i1) ∧ w'.cell? ⟨b2, o2 + e, none⟩ = some (.int .u32 p1) ∧ w'.cell? ⟨b3, o3 + e, none⟩ = some (.int .u32 r1) ∧ w'.cell? ⟨b4, o4 + e, none⟩ = some (.int .i64 t1)) ∧ Below w1.heap.size w1 w') := by
              intro w1 hb
              refine (HCz.out i1 p1 r1 t1 w1 hb HWp.out).mono ?_
              rintro e' w' ⟨rfl, hb'⟩
              have hb2 := bthen hb hb'
              exact ⟨by rw [HF2.out]; rfl, ⟨cell_later hb2 hc1, cell_later hb2 hc2, cell_later hb2 hc3, cell_later hb2 hc4⟩, hb'⟩
            clear HCz HF2 HWp HAt
            go_wp2_with fail
            refine HC1.out.mono ?_
            rintro e' w7 ⟨rfl, hb7⟩
            clear HC1 hlx hc0 hwx
            replace HC2 := hide (fun w1 h => HC2.out w1 (bthen hb7 h))
            replace hc1 := cell_later hb7 hc1
            replace hc2 := cell_later hb7 hc2
            replace hc3 := cell_later hb7 hc3
            replace hc4 := cell_later hb7 hc4
            replace hbb := bthen hbb hb7
            clear hb7 HV0 HV1 HV2 HV3 HV4 HO HEv FK FP HN0 HN1 HN2 HN3 HN4
            unfold frameVal
            go_wp2
            go_region_held3 (fun w' => w'.cell? ⟨b1, o1 + e, none⟩ = some (.int .u32 i1) ∧ w'.cell? ⟨b2, o2 + e, none⟩ = some (.int .u32 p1) ∧ w'.cell? ⟨b3, o3 + e, none⟩ = some (.int .u32 r1) ∧ w'.cell? ⟨b4, o4 + e, none⟩ = some (.int .i64 t1)) (simp [go_sem, *])
              ((go_at_call 10; refine (HC2.out _ (by first | exact Below.refl _ _ | exact (Below.refl _ _).drew)).mono ?_; rintro e' w8 ⟨rfl, ⟨j1, j2, j3, j4⟩, hb8⟩))
            clear HC2 hc1 hc2 hc3 hc4 j4
            rcases HT.out with ⟨rfl, rfl, rfl⟩ | ⟨hne, rfl⟩
            · clear HT
              have hi : (i1 == i1) = true := by simp
              simp only [Option.getD_some, Option.getD_none, Option.isSome_some, Option.isSome_none]
              go_wp2
              go_quiet (fail)
              go_wp2
              go_ret
              exact ⟨by first | rfl | simp, below_drewN (by first | exact bthen hbb hb8 | exact bthen hbb.drew hb8) _⟩
            · clear HT
              have hpr : (p1 == r1) = false := by simp [hne]
              generalize F2.getD 0 = f
              generalize F2.isSome = s
              have hf : (f == f) = true := by simp
              have hs : (s == s) = true := by simp
              go_wp2
              go_quiet (fail)
              go_wp2
              go_ret
              exact ⟨by first | rfl | simp, below_drewN (by first | exact bthen hbb hb8 | exact bthen hbb.drew hb8) _⟩
end Go.Proofs.Qxb6617836a
