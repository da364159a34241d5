import Derived.Test.Qxb6617836aTopPlain
namespace Go.Proofs.Qxb6617836a
open Go.ChangeShapes Go.WideShapes Go.ChangeAt Go.RowKit
set_option linter.unusedVariables false

set_option maxRecDepth 100000 in
set_option maxHeartbeats 8000000 in
theorem top_any (W : Wins) (a0 a1 a2 a3 a4 : Option Addr) (c0 c1 c2 c3 c4 : Nat) (wid wparent wroot wpid : Int) (w : World)
    (s0 : SrcAt .u32 w a0 W.keys) (s1 : SrcAt .u32 w a1 W.ids) (s2 : SrcAt .u32 w a2 W.parents) (s3 : SrcAt .u32 w a3 W.roots) (s4 : SrcAt .i64 w a4 W.pids)
    (fk : Fits W.keys) (fp : Fits W.parents) (hw : (Lit.int .u32 wparent).wf = true) :
    Calls Try.prog 7 #[.slice a0 W.keys.length c0, .slice a1 W.ids.length c1, .slice a2 W.parents.length c2, .slice a3 W.roots.length c3, .slice a4 W.pids.length c4, .int .u32 wid, .int .u32 wparent, .int .u32 wroot, .int .i64 wpid] w fun e w' => e = .returned (.bool true) ∧ Below w.heap.size w w' := by
  obtain ⟨n0, hn0⟩ : ∃ n, n = W.keys.length := ⟨_, rfl⟩
  obtain ⟨n1, hn1⟩ : ∃ n, n = W.ids.length := ⟨_, rfl⟩
  obtain ⟨n2, hn2⟩ : ∃ n, n = W.parents.length := ⟨_, rfl⟩
  obtain ⟨n3, hn3⟩ : ∃ n, n = W.roots.length := ⟨_, rfl⟩
  obtain ⟨n4, hn4⟩ : ∃ n, n = W.pids.length := ⟨_, rfl⟩
  rw [← hn0, ← hn1, ← hn2, ← hn3, ← hn4]
  have HN0 := hide hn0
  have HS0 := hide s0
  have HN1 := hide hn1
  have HS1 := hide s1
  have HN2 := hide hn2
  have HS2 := hide s2
  have HN3 := hide hn3
  have HS3 := hide s3
  have HN4 := hide hn4
  have HS4 := hide s4
  have FK := hide fk
  have FP := hide fp
  have HZ := hide (bytes17 a0 a1 a2 a3 a4 n0 n1 n2 n3 n4 c0 c1 c2 c3 c4 wid wparent wroot wpid w)
  clear hn0 hn1 hn2 hn3 hn4 s0 s1 s2 s3 s4 fk fp
  go_enter Try.func7, Try.ntmps7
  go_wp2_with fail
  refine HZ.out.mono ?_
  rintro e w' ⟨⟨b, rfl⟩, rfl⟩
  clear HZ
  cases b
  · go_wp2
    go_ret
    exact ⟨rfl, Below.refl _ _⟩
  by_cases g0 : n0 ≤ 16384
  rotate_left
  · as_aux_lemma =>
      go_wp2
      go_ret
      exact ⟨rfl, Below.refl _ _⟩
  by_cases g1 : n1 ≤ 16384
  rotate_left
  · as_aux_lemma =>
      go_wp2
      go_ret
      exact ⟨rfl, Below.refl _ _⟩
  by_cases g2 : n2 ≤ 16384
  rotate_left
  · as_aux_lemma =>
      go_wp2
      go_ret
      exact ⟨rfl, Below.refl _ _⟩
  by_cases g3 : n3 ≤ 16384
  rotate_left
  · as_aux_lemma =>
      go_wp2
      go_ret
      exact ⟨rfl, Below.refl _ _⟩
  by_cases g4 : n4 ≤ 16384
  rotate_left
  · as_aux_lemma =>
      go_wp2
      go_ret
      exact ⟨rfl, Below.refl _ _⟩
  have hbb := Below.refl w'.heap.size w'
  have hnn0 : ∀ w, (binOp .neq 22 (.slice a0 n0 c0) (.slice none 0 0)).run Try.prog w = .ok (.bool (!a0.isNone)) w := fun w => run_neq_slice_nil_any w 22 24 a0 n0 c0 0 0 Try.underlying22
  go_upto_if 63 with fail
  go_cut [0, 19] (fun v z wr => copied .u32 w' W.keys n0 v wr)
  case first => as_aux_lemma =>
    have hmk := run_make_row' (P := Try.prog) 22 24 (.int .u32 0) 4 Try.underlying22 info24 rfl .i64 .i64 n0 (by omega) (by omega)
    obtain ⟨cs, hcs⟩ : ∃ cs : List Value, cs = vals .u32 W.keys := ⟨_, rfl⟩
    have hcl : cs.length = n0 := by rw [hcs, HN0.out]; exact vals_len _ _
    have HCL := hide hcl
    have HCS := hide hcs
    clear hcl hcs
    have HS := hide (HS0.out.later hbb)
    cases a0 with
    | none =>
      simp only [Option.isNone_none, Bool.not_true] at hnn0
      go_wp2
      go_meet
      exact ⟨_, _, rfl, HS.out.none _, Below.refl _ _⟩
    | some ad =>
      simp only [Option.isNone_some, Bool.not_false] at hnn0
      go_wp2_with (refine wpList_copy_splice rfl (.tmp 67) (.tmp 68) 22 22 rfl 24 Try.underlying22 size24 _ _ _ _ _ _ rfl rfl w'.heap.size 0 (madeCells #[(.int .u32 0)] n0).toList 24 ?hg cs ?hn ?hpos ?hfit ?h1 w'.heap.size w' ?hb (Nat.le_refl _) ?_)
      case hg => rw [heap_new]
      case hn => rw [HCL.out]; exact (Nat.min_self n0).symm
      case hpos =>
        intro _ j v hj
        exact src_cells (HS.out.later ((Below.refl _ _).alloc (Nat.le_refl _) _)) HCS.out hj
      case hfit => rw [HCL.out, made_len, Nat.zero_add]; exact Nat.le_refl _
      case h1 => exact one_cells HCS.out
      case hb => exact (Below.refl _ _).alloc (Nat.le_refl _) _
      intro wn HG hb2
      have HV := hide (row_ints (zs := W.keys) HG.out HCS.out (by rw [HCL.out, made_len]))
      clear HG HS hnn0 hmk HCS HCL
      go_wp2
      go_meet
      exact ⟨_, _, rfl, HV.out, hb2⟩
  case rest =>
    obtain ⟨v0, d0, rfl, hV, hb2⟩ := hcut
    have HV0 := hide hV
    clear hV HS0 hnn0
    obtain ⟨w1, rfl⟩ : ∃ w1 : World, w1 = wc := ⟨_, rfl⟩
    replace hbb := bthen hbb hb2
    clear hb2
    have hnn1 : ∀ w, (binOp .neq 22 (.slice a1 n1 c1) (.slice none 0 0)).run Try.prog w = .ok (.bool (!a1.isNone)) w := fun w => run_neq_slice_nil_any w 22 24 a1 n1 c1 0 0 Try.underlying22
    go_upto_if 72 with fail
    go_cut [1, 20] (fun v z wr => copied .u32 w1 W.ids n1 v wr)
    case first => as_aux_lemma =>
      have hmk := run_make_row' (P := Try.prog) 22 24 (.int .u32 0) 4 Try.underlying22 info24 rfl .i64 .i64 n1 (by omega) (by omega)
      obtain ⟨cs, hcs⟩ : ∃ cs : List Value, cs = vals .u32 W.ids := ⟨_, rfl⟩
      have hcl : cs.length = n1 := by rw [hcs, HN1.out]; exact vals_len _ _
      have HCL := hide hcl
      have HCS := hide hcs
      clear hcl hcs
      have HS := hide (HS1.out.later hbb)
      cases a1 with
      | none =>
        simp only [Option.isNone_none, Bool.not_true] at hnn1
        go_wp2
        go_meet
        exact ⟨_, _, rfl, HS.out.none _, Below.refl _ _⟩
      | some ad =>
        simp only [Option.isNone_some, Bool.not_false] at hnn1
        go_wp2_with (refine wpList_copy_splice rfl (.tmp 76) (.tmp 77) 22 22 rfl 24 Try.underlying22 size24 _ _ _ _ _ _ rfl rfl w1.heap.size 0 (madeCells #[(.int .u32 0)] n1).toList 24 ?hg cs ?hn ?hpos ?hfit ?h1 w1.heap.size w1 ?hb (Nat.le_refl _) ?_)
        case hg => rw [heap_new]
        case hn => rw [HCL.out]; exact (Nat.min_self n1).symm
        case hpos =>
          intro _ j v hj
          exact src_cells (HS.out.later ((Below.refl _ _).alloc (Nat.le_refl _) _)) HCS.out hj
        case hfit => rw [HCL.out, made_len, Nat.zero_add]; exact Nat.le_refl _
        case h1 => exact one_cells HCS.out
        case hb => exact (Below.refl _ _).alloc (Nat.le_refl _) _
        intro wn HG hb2
        have HV := hide (row_ints (zs := W.ids) HG.out HCS.out (by rw [HCL.out, made_len]))
        clear HG HS hnn1 hmk HCS HCL
        go_wp2
        go_meet
        exact ⟨_, _, rfl, HV.out, hb2⟩
    case rest =>
      obtain ⟨v1, d1, rfl, hV, hb2⟩ := hcut
      have HV1 := hide hV
      clear hV HS1 hnn1
      obtain ⟨w2, rfl⟩ : ∃ w2 : World, w2 = wc := ⟨_, rfl⟩
      replace HV0 := hide (HV0.out.later hb2)
      replace hbb := bthen hbb hb2
      clear hb2
      have hnn2 : ∀ w, (binOp .neq 22 (.slice a2 n2 c2) (.slice none 0 0)).run Try.prog w = .ok (.bool (!a2.isNone)) w := fun w => run_neq_slice_nil_any w 22 24 a2 n2 c2 0 0 Try.underlying22
      go_upto_if 81 with fail
      go_cut [2, 21] (fun v z wr => copied .u32 w2 W.parents n2 v wr)
      case first => as_aux_lemma =>
        have hmk := run_make_row' (P := Try.prog) 22 24 (.int .u32 0) 4 Try.underlying22 info24 rfl .i64 .i64 n2 (by omega) (by omega)
        obtain ⟨cs, hcs⟩ : ∃ cs : List Value, cs = vals .u32 W.parents := ⟨_, rfl⟩
        have hcl : cs.length = n2 := by rw [hcs, HN2.out]; exact vals_len _ _
        have HCL := hide hcl
        have HCS := hide hcs
        clear hcl hcs
        have HS := hide (HS2.out.later hbb)
        cases a2 with
        | none =>
          simp only [Option.isNone_none, Bool.not_true] at hnn2
          go_wp2
          go_meet
          exact ⟨_, _, rfl, HS.out.none _, Below.refl _ _⟩
        | some ad =>
          simp only [Option.isNone_some, Bool.not_false] at hnn2
          go_wp2_with (refine wpList_copy_splice rfl (.tmp 85) (.tmp 86) 22 22 rfl 24 Try.underlying22 size24 _ _ _ _ _ _ rfl rfl w2.heap.size 0 (madeCells #[(.int .u32 0)] n2).toList 24 ?hg cs ?hn ?hpos ?hfit ?h1 w2.heap.size w2 ?hb (Nat.le_refl _) ?_)
          case hg => rw [heap_new]
          case hn => rw [HCL.out]; exact (Nat.min_self n2).symm
          case hpos =>
            intro _ j v hj
            exact src_cells (HS.out.later ((Below.refl _ _).alloc (Nat.le_refl _) _)) HCS.out hj
          case hfit => rw [HCL.out, made_len, Nat.zero_add]; exact Nat.le_refl _
          case h1 => exact one_cells HCS.out
          case hb => exact (Below.refl _ _).alloc (Nat.le_refl _) _
          intro wn HG hb2
          have HV := hide (row_ints (zs := W.parents) HG.out HCS.out (by rw [HCL.out, made_len]))
          clear HG HS hnn2 hmk HCS HCL
          go_wp2
          go_meet
          exact ⟨_, _, rfl, HV.out, hb2⟩
      case rest =>
        obtain ⟨v2, d2, rfl, hV, hb2⟩ := hcut
        have HV2 := hide hV
        clear hV HS2 hnn2
        obtain ⟨w3, rfl⟩ : ∃ w3 : World, w3 = wc := ⟨_, rfl⟩
        replace HV0 := hide (HV0.out.later hb2)
        replace HV1 := hide (HV1.out.later hb2)
        replace hbb := bthen hbb hb2
        clear hb2
        have hnn3 : ∀ w, (binOp .neq 22 (.slice a3 n3 c3) (.slice none 0 0)).run Try.prog w = .ok (.bool (!a3.isNone)) w := fun w => run_neq_slice_nil_any w 22 24 a3 n3 c3 0 0 Try.underlying22
        go_upto_if 90 with fail
        go_cut [3, 22] (fun v z wr => copied .u32 w3 W.roots n3 v wr)
        case first => as_aux_lemma =>
          have hmk := run_make_row' (P := Try.prog) 22 24 (.int .u32 0) 4 Try.underlying22 info24 rfl .i64 .i64 n3 (by omega) (by omega)
          obtain ⟨cs, hcs⟩ : ∃ cs : List Value, cs = vals .u32 W.roots := ⟨_, rfl⟩
          have hcl : cs.length = n3 := by rw [hcs, HN3.out]; exact vals_len _ _
          have HCL := hide hcl
          have HCS := hide hcs
          clear hcl hcs
          have HS := hide (HS3.out.later hbb)
          cases a3 with
          | none =>
            simp only [Option.isNone_none, Bool.not_true] at hnn3
            go_wp2
            go_meet
            exact ⟨_, _, rfl, HS.out.none _, Below.refl _ _⟩
          | some ad =>
            simp only [Option.isNone_some, Bool.not_false] at hnn3
            go_wp2_with (refine wpList_copy_splice rfl (.tmp 94) (.tmp 95) 22 22 rfl 24 Try.underlying22 size24 _ _ _ _ _ _ rfl rfl w3.heap.size 0 (madeCells #[(.int .u32 0)] n3).toList 24 ?hg cs ?hn ?hpos ?hfit ?h1 w3.heap.size w3 ?hb (Nat.le_refl _) ?_)
            case hg => rw [heap_new]
            case hn => rw [HCL.out]; exact (Nat.min_self n3).symm
            case hpos =>
              intro _ j v hj
              exact src_cells (HS.out.later ((Below.refl _ _).alloc (Nat.le_refl _) _)) HCS.out hj
            case hfit => rw [HCL.out, made_len, Nat.zero_add]; exact Nat.le_refl _
            case h1 => exact one_cells HCS.out
            case hb => exact (Below.refl _ _).alloc (Nat.le_refl _) _
            intro wn HG hb2
            have HV := hide (row_ints (zs := W.roots) HG.out HCS.out (by rw [HCL.out, made_len]))
            clear HG HS hnn3 hmk HCS HCL
            go_wp2
            go_meet
            exact ⟨_, _, rfl, HV.out, hb2⟩
        case rest =>
          obtain ⟨v3, d3, rfl, hV, hb2⟩ := hcut
          have HV3 := hide hV
          clear hV HS3 hnn3
          obtain ⟨w4, rfl⟩ : ∃ w4 : World, w4 = wc := ⟨_, rfl⟩
          replace HV0 := hide (HV0.out.later hb2)
          replace HV1 := hide (HV1.out.later hb2)
          replace HV2 := hide (HV2.out.later hb2)
          replace hbb := bthen hbb hb2
          clear hb2
          have hnn4 : ∀ w, (binOp .neq 23 (.slice a4 n4 c4) (.slice none 0 0)).run Try.prog w = .ok (.bool (!a4.isNone)) w := fun w => run_neq_slice_nil_any w 23 3 a4 n4 c4 0 0 Try.underlying23
          go_upto_if 99 with fail
          go_cut [4, 23] (fun v z wr => copied .i64 w4 W.pids n4 v wr)
          case first => as_aux_lemma =>
            have hmk := run_make_row' (P := Try.prog) 23 3 (.int .i64 0) 8 Try.underlying23 info3 rfl .i64 .i64 n4 (by omega) (by omega)
            obtain ⟨cs, hcs⟩ : ∃ cs : List Value, cs = vals .i64 W.pids := ⟨_, rfl⟩
            have hcl : cs.length = n4 := by rw [hcs, HN4.out]; exact vals_len _ _
            have HCL := hide hcl
            have HCS := hide hcs
            clear hcl hcs
            have HS := hide (HS4.out.later hbb)
            cases a4 with
            | none =>
              simp only [Option.isNone_none, Bool.not_true] at hnn4
              go_wp2
              go_meet
              exact ⟨_, _, rfl, HS.out.none _, Below.refl _ _⟩
            | some ad =>
              simp only [Option.isNone_some, Bool.not_false] at hnn4
              go_wp2_with (refine wpList_copy_splice rfl (.tmp 103) (.tmp 104) 23 23 rfl 3 Try.underlying23 size3 _ _ _ _ _ _ rfl rfl w4.heap.size 0 (madeCells #[(.int .i64 0)] n4).toList 3 ?hg cs ?hn ?hpos ?hfit ?h1 w4.heap.size w4 ?hb (Nat.le_refl _) ?_)
              case hg => rw [heap_new]
              case hn => rw [HCL.out]; exact (Nat.min_self n4).symm
              case hpos =>
                intro _ j v hj
                exact src_cells (HS.out.later ((Below.refl _ _).alloc (Nat.le_refl _) _)) HCS.out hj
              case hfit => rw [HCL.out, made_len, Nat.zero_add]; exact Nat.le_refl _
              case h1 => exact one_cells HCS.out
              case hb => exact (Below.refl _ _).alloc (Nat.le_refl _) _
              intro wn HG hb2
              have HV := hide (row_ints (zs := W.pids) HG.out HCS.out (by rw [HCL.out, made_len]))
              clear HG HS hnn4 hmk HCS HCL
              go_wp2
              go_meet
              exact ⟨_, _, rfl, HV.out, hb2⟩
          case rest =>
            obtain ⟨v4, d4, rfl, hV, hb2⟩ := hcut
            have HV4 := hide hV
            clear hV HS4 hnn4
            obtain ⟨w5, rfl⟩ : ∃ w5 : World, w5 = wc := ⟨_, rfl⟩
            replace HV0 := hide (HV0.out.later hb2)
            replace HV1 := hide (HV1.out.later hb2)
            replace HV2 := hide (HV2.out.later hb2)
            replace HV3 := hide (HV3.out.later hb2)
            replace hbb := bthen hbb hb2
            clear hb2
            by_cases e1 : n1 = n0
            rotate_left
            · as_aux_lemma =>
                have h1 : ((n1 : Int) != (n0 : Int)) = true := by simp; omega
                go_wp2
                go_ret
                exact ⟨rfl, hbb⟩
            have h1 : ((n1 : Int) != (n0 : Int)) = false := by simp; omega
            by_cases e2 : n2 = n0
            rotate_left
            · as_aux_lemma =>
                have h2 : ((n2 : Int) != (n0 : Int)) = true := by simp; omega
                go_wp2
                go_ret
                exact ⟨rfl, hbb⟩
            have h2 : ((n2 : Int) != (n0 : Int)) = false := by simp; omega
            by_cases e3 : n3 = n0
            rotate_left
            · as_aux_lemma =>
                have h3 : ((n3 : Int) != (n0 : Int)) = true := by simp; omega
                go_wp2
                go_ret
                exact ⟨rfl, hbb⟩
            have h3 : ((n3 : Int) != (n0 : Int)) = false := by simp; omega
            by_cases e4 : n4 = n0
            rotate_left
            · as_aux_lemma =>
                have h4 : ((n4 : Int) != (n0 : Int)) = true := by simp; omega
                go_wp2
                go_ret
                exact ⟨rfl, hbb⟩
            subst e1 e2 e3 e4
            clear h1 h2 h3
            obtain ⟨n, rfl⟩ : ∃ n, n = n4 := ⟨_, rfl⟩
            have HEv : Hid W.even := ⟨HN1.out.symm.trans HN0.out, HN2.out.symm.trans HN0.out, HN3.out.symm.trans HN0.out, HN4.out.symm.trans HN0.out⟩
            have HC := hide (order_any W v0 v2 v3 d0 d2 d3 w5 HEv.out (by rw [← HN0.out]; exact g0) HV0.out HV2.out HV3.out FK.out FP.out)
            rw [← HN0.out] at HC
            go_wp2_with fail
            refine HC.out.mono ?_
            rintro e w6 ⟨⟨b, rfl, ho⟩, hM, hb6⟩
            clear HC
            replace hbb := bthen hbb hb6
            cases b
            · as_aux_lemma =>
                clear ho hM hb6
                go_wp2
                go_ret
                exact ⟨rfl, hbb⟩
            have HO := hide (ho rfl)
            have HM := hide hM
            replace HV0 := hide (HV0.out.later hb6)
            replace HV1 := hide (HV1.out.later hb6)
            replace HV2 := hide (HV2.out.later hb6)
            replace HV3 := hide (HV3.out.later hb6)
            replace HV4 := hide (HV4.out.later hb6)
            clear ho hM hb6
            have HC1 := hide (zz_any W v0 v1 v2 v3 v4 d0 d1 d2 d3 d4 wid wparent wroot wpid w6 HEv.out HO.out (by rw [← HN0.out]; exact g0) HV0.out HV1.out HV2.out HV3.out HV4.out FK.out FP.out hw)
            rw [← HN0.out] at HC1
            obtain ⟨F, hF⟩ : ∃ F, W.frame wid wparent wroot = F := ⟨_, rfl⟩
            rw [hF] at HC1
            have HF := hide hF
            have HW := hide hw
            clear hF hw
            go_wp2_with fail
            refine HC1.out.mono ?_
            rintro e' w7 ⟨rfl, hb7⟩
            clear HC1
            replace HV0 := hide (HV0.out.later hb7)
            replace HV1 := hide (HV1.out.later hb7)
            replace HV2 := hide (HV2.out.later hb7)
            replace HV3 := hide (HV3.out.later hb7)
            replace HM := hide (HM.out.below hb7)
            replace hbb := bthen hbb hb7
            clear hb7 HV4
            unfold frameVal
            obtain ⟨B, hB⟩ : ∃ B, B = w5.heap.size := ⟨_, rfl⟩
            rw [← hB] at HM ⊢
            clear hB
            have hmk4 := run_make_row' (P := Try.prog) 42 4 (.bool false) 1 Try.underlying42 info4 rfl .i64 .i64 n (by omega) (by omega)
            have hmk22 := run_make_row' (P := Try.prog) 22 24 (.int .u32 0) 4 Try.underlying22 info24 rfl .i64 .i64 n (by omega) (by omega)
            go_wp2
            go_loopw [31] (fun i wr => topRel W w7 n i wr) (fun i _ => n - (intOf i).toNat)
            case atStart =>
              refine ⟨0, fun _ => false, fun _ => 0, Nat.zero_le _, rfl, ⟨fun _ _ => rfl, fun j h => by omega⟩, rowB.made (z := .bool false) (new_other (heap_alloc_last w7 _)), rowB.made (z := .int .u32 0) ?_, ((Below.refl _ _).alloc (Nat.le_refl _) _).alloc (by simp) _⟩
              have := heap_alloc_last (w7.alloc (.cells (madeCells #[.bool false] n) 4)) (.cells (madeCells #[.int .u32 0] n) 24)
              simpa using this
            case round =>
              clear hmk4 hmk22
              obtain ⟨k, rc, tp, hk, rfl, HI, HRr, HTr, hb⟩ := hrel
              have HMr := hide (HM.out.below hb)
              by_cases hlt : k < n
              · have hk' : k < W.keys.length := by rw [← HN0.out]; exact hlt
                obtain ⟨b0, o0, rfl, hc0⟩ := (HV0.out.later hb).get hk'
                obtain ⟨b2, o2, rfl, hc2⟩ := (HV2.out.later hb).get (i := k) (by rw [HEv.out.2.1]; exact hk')
                obtain ⟨b3, o3, rfl, hc3⟩ := (HV3.out.later hb).get (i := k) (by rw [HEv.out.2.2.1]; exact hk')
                have hlx := HMr.out.get Try.underlying26 (zero3 wr) (FK.out.at k)
                obtain ⟨e, he, hke⟩ := lastTo_ge (keys := W.keys) (k := W.keys.length) (i := k) (x := W.keys.getD k 0) hk' (by simp [List.getD_eq_getElem?_getD, hk'])
                have hev : (lastMap W.keys n (W.keys.getD k 0)).getD (.int .i64 0) = .int .i64 (e : Int) := by unfold lastMap; rw [HN0.out, he]; rfl
                rw [hev] at hlx
                have HAt : Hid (W.at (W.keys.getD k 0) = some e) := he
                have hkn : (k : Int) < (n : Int) := by omega
                clear he hev
                by_cases c1 : e = k
                · subst c1
                  have hne1 : ((e : Int) != (e : Int)) = false := by simp
                  have hR : wr.cell? ⟨w7.heap.size, e, none⟩ = some (.bool (rc e)) := HRr.out.cell hlt
                  have hRf := HRr.out.frozen e
                  have hT : wr.cell? ⟨w7.heap.size + 1, e, none⟩ = some (.int .u32 (tp e)) := HTr.out.cell hlt
                  have hTf := HTr.out.frozen e
                  obtain ⟨x, hx⟩ : ∃ x, W.keys.getD e 0 = x := ⟨_, rfl⟩
                  obtain ⟨p, hp⟩ : ∃ p, W.parents.getD e 0 = p := ⟨_, rfl⟩
                  obtain ⟨r, hr⟩ : ∃ r, W.roots.getD e 0 = r := ⟨_, rfl⟩
                  have hwp : (Lit.int .u32 p).wf = true := by rw [← hp]; exact FP.out.at e
                  rw [hx] at hc0 hlx HAt
                  rw [hp] at hc2
                  rw [hr] at hc3
                  have HX := hide hx
                  have HPa := hide hp
                  have HRo := hide hr
                  clear hx hp hr
                  by_cases c2 : p = r
                  · subst c2
                    obtain ⟨b1, o1, rfl, hc1⟩ := (HV1.out.later hb).get (i := e) (by rw [HEv.out.1]; exact hk')
                    have hn1 : ¬ (b1 = w7.heap.size) := by
                      obtain ⟨b, o, eq, h⟩ := HV1.out.get (i := e) (by rw [HEv.out.1]; exact hk')
                      simp only [Option.some.injEq, Addr.mk.injEq] at eq
                      have := World.block_lt_of_cell? w7 ⟨b, o + e, none⟩ h
                      simp only at this
                      omega
                    have HI1 := hide (HI.out.root (HPa.out.trans HRo.out.symm))
                    generalize W.ids.getD e 0 = i1 at *
                    as_aux_lemma =>
                      go_wp2
                      go_quiet (fail)
                      go_wp2
                      go_roundw
                      case rel =>
                        refine ⟨e + 1, _, _, by omega, by go_num, HI1, (((HRr.out.drewN _).set e (.bool true)).other (by omega) e _).congr (fun j => ?_), (((HTr.out.drewN _).other (by omega) e _).set e (.int .u32 i1)).congr (fun j => ?_), ((below_drewN hb _).setCell (Nat.le_refl _) _).setCell (Nat.le_succ _) _⟩
                        · by_cases h : j = e
                          · simp [h]
                          · simp [h]
                        · by_cases h : j = e
                          · simp [h]
                          · simp [h]
                      case measure => simp [intOf]; omega
                  · have hne2 : (p == r) = false := by simp [c2]
                    cases hat : W.at p with
                    | none =>
                      have hlp : ∀ m, (Instr.lookup 26 (.map (some B)) (.int .u32 p) true).run Try.prog (wr.drewN m) = .ok (.tuple #[.int .i64 0, .bool false]) (wr.drewN m) := fun m => by
                        have h := (HMr.out.below (below_drewN (Below.refl _ _) m)).look Try.underlying26 (zero3 (wr.drewN m)) hwp
                        rw [show lastMap W.keys n p = none from by unfold lastMap; rw [HN0.out]; unfold Wins.at at hat; rw [hat]; rfl] at h
                        exact h
                      have HI1 := hide (HI.out.gone (by rw [HPa.out, HRo.out]; exact c2) (by rw [HPa.out]; exact hat))
                      clear hat
                      as_aux_lemma =>
                        go_wp2
                        go_quiet (fail)
                        go_wp2
                        go_roundw
                        case rel => exact ⟨e + 1, rc, tp, by omega, by go_num, HI1, HRr.out.drewN _, HTr.out.drewN _, below_drewN hb _⟩
                        case measure => simp [intOf]; omega
                    | some j =>
                      have hlp : ∀ m, (Instr.lookup 26 (.map (some B)) (.int .u32 p) true).run Try.prog (wr.drewN m) = .ok (.tuple #[.int .i64 (j : Int), .bool true]) (wr.drewN m) := fun m => by
                        have h := (HMr.out.below (below_drewN (Below.refl _ _) m)).look Try.underlying26 (zero3 (wr.drewN m)) hwp
                        rw [show lastMap W.keys n p = some (.int .i64 (j : Int)) from by unfold lastMap; rw [HN0.out]; unfold Wins.at at hat; rw [hat]; rfl] at h
                        exact h
                      have HI1 := hide (HI.out.next HO.out HAt.out (by rw [HPa.out, HRo.out]; exact c2) (by rw [HPa.out]; exact hat))
                      have hjn : j < n := by rw [HN0.out]; exact (lastTo_lt hat).1
                      have hji : (j : Int) < (n : Int) := by omega
                      have hRj : wr.cell? ⟨w7.heap.size, j, none⟩ = some (.bool (rc j)) := HRr.out.cell hjn
                      have hTj : wr.cell? ⟨w7.heap.size + 1, j, none⟩ = some (.int .u32 (tp j)) := HTr.out.cell hjn
                      obtain ⟨sj, hsj⟩ : ∃ sj, sj = rc j := ⟨_, rfl⟩
                      obtain ⟨tj, htj⟩ : ∃ tj, tj = tp j := ⟨_, rfl⟩
                      rw [← hsj] at hRj HI1
                      rw [← htj] at hTj HI1
                      clear hat hsj htj
                      as_aux_lemma =>
                        go_wp2
                        go_quiet (fail)
                        go_wp2
                        go_roundw
                        case rel =>
                          refine ⟨e + 1, _, _, by omega, by go_num, HI1, (((HRr.out.drewN _).set e (.bool sj)).other (by omega) e _).congr (fun j => ?_), (((HTr.out.drewN _).other (by omega) e _).set e (.int .u32 tj)).congr (fun j => ?_), ((below_drewN hb _).setCell (Nat.le_refl _) _).setCell (Nat.le_succ _) _⟩
                          · by_cases h : j = e
                            · simp [h]
                            · simp [h]
                          · by_cases h : j = e
                            · simp [h]
                            · simp [h]
                        case measure => simp [intOf]; omega
                · have hne1 : ((e : Int) != (k : Int)) = true := by simp; omega
                  have HI1 := hide (HI.out.skip (by rw [HAt.out]; simp; exact c1))
                  generalize W.keys.getD k 0 = x at *
                  as_aux_lemma =>
                    go_wp2
                    go_roundw
                    case rel => exact ⟨k + 1, rc, tp, by omega, by go_num, HI1, HRr, HTr, hb⟩
                    case measure => simp [intOf]; omega
              · have e : k = n := by omega
                subst e
                have HIn : Hid (Inv W W.keys.length rc tp) := by rw [← HN0.out]; exact HI.out
                replace hbb := bthen hbb hb
                clear HI hk
                by_cases c1 : wparent = wroot
                · subst c1
                  have h : F = none := by rw [← HF.out]; unfold Wins.frame; rw [if_pos rfl]
                  subst h
                  simp only [Option.getD_none, Option.isSome_none]
                  as_aux_lemma =>
                    go_wp2
                    go_ret
                    exact ⟨rfl, hbb⟩
                · have hne : (wparent == wroot) = false := by simp [c1]
                  cases hat : W.at wparent with
                  | none =>
                    have hlp := HMr.out.look Try.underlying26 (zero3 wr) HW.out
                    rw [show lastMap W.keys k wparent = none from by unfold lastMap; rw [HN0.out]; unfold Wins.at at hat; rw [hat]; rfl] at hlp
                    simp only [Option.getD_none, Option.isSome_none] at hlp
                    have h : F = none := by rw [← HF.out]; exact W.frame_gone _ hat c1
                    subst h
                    simp only [Option.getD_none, Option.isSome_none]
                    clear hat
                    as_aux_lemma =>
                      go_wp2
                      go_ret
                      exact ⟨rfl, hbb⟩
                  | some j =>
                    have hlp := HMr.out.look Try.underlying26 (zero3 wr) HW.out
                    rw [show lastMap W.keys k wparent = some (.int .i64 (j : Int)) from by unfold lastMap; rw [HN0.out]; unfold Wins.at at hat; rw [hat]; rfl] at hlp
                    simp only [Option.getD_some, Option.isSome_some] at hlp
                    have hFj : W.top j = F := by rw [← HF.out]; exact (W.frame_step HO.out _ hat c1).symm
                    have hI := HIn.out.last hat
                    rw [hFj] at hI
                    have hjn : j < k := by rw [HN0.out]; exact (lastTo_lt hat).1
                    have hji : (j : Int) < (k : Int) := by omega
                    have hRj : wr.cell? ⟨w7.heap.size, j, none⟩ = some (.bool (rc j)) := HRr.out.cell hjn
                    have hTj : wr.cell? ⟨w7.heap.size + 1, j, none⟩ = some (.int .u32 (tp j)) := HTr.out.cell hjn
                    rw [hI.1] at hRj
                    clear hat hFj HF
                    cases F with
                    | none =>
                      simp only [Option.isSome_none] at hRj
                      simp only [Option.getD_none, Option.isSome_none]
                      clear hI
                      as_aux_lemma =>
                        go_wp2
                        go_ret
                        exact ⟨rfl, hbb⟩
                    | some f =>
                      rw [hI.2 f rfl] at hTj
                      simp only [Option.isSome_some] at hRj
                      simp only [Option.getD_some, Option.isSome_some]
                      have hff : (f == f) = true := by simp
                      clear hI
                      as_aux_lemma =>
                        go_wp2
                        go_ret
                        exact ⟨rfl, hbb⟩
end Go.Proofs.Qxb6617836a
