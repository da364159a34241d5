import Derived.Test.Qxb6618623aDoorCards
import Derived.Test.Qxb6618623aDoorTie
import Derived.Test.Qxb6618623aDoorWalks
import Derived.ProofKit
import Derived.OpenShut
import Derived.ShutString
import Derived.ChangeOld
import Derived.Below
import Derived.LaidMore
import Derived.Lay
import Derived.SevenTiedAt
import Derived.Stop.Joined
namespace Go.Proofs.Qxb6618623aDoor
open Go.ChangeShapes Go.WideShapes Go.ChangeAt Go.RowKit
open Go.ChangeMaps (open_string shut_string)
set_option linter.unusedVariables false

theorem own : ownKnob Tryd.prog.godebug = none := by kernel_rfl
theorem laidOut : laidOutB Tryd.prog = true := by kernel_rfl

theorem white_datum : (Rows.laid_unicode_White_Space : DataW Unit) = Lib.whiteData := by rfl
theorem ascii_datum : (Rows.laid_strings_asciiSpace : DataW Unit) = Lib.tabData .u8 Lib.asciiSpaceTab := by kernel_rfl
theorem whiteX : WhiteExtra Tryd.prog Tryd.lays199_ren where
  n6 := by kernel_rfl
  y6 := by kernel_rfl
  c3 := by kernel_rfl
  c49 := by kernel_rfl
  c193 := by kernel_rfl
  c194 := by kernel_rfl
  c196 := by kernel_rfl
  c198 := by kernel_rfl

/-- what the row's condition gives the walk -/
theorem tabs_of_laid {W : World} (h : laidMetH Tryd.prog Rows.fnAtomicJoinIsOrRow.laid W) : Tabs W := by
  rw [MakeChecks.laidMetH_plain _ _ _ (by kernel_rfl)] at h
  have hW := Lib.laidMet.reads h (n := "unicode.White_Space") (d := Rows.laid_unicode_White_Space) (List.mem_cons_self ..)
  have hA := Lib.laidMet.reads h (n := "strings.asciiSpace") (d := Rows.laid_strings_asciiSpace) (List.mem_cons_of_mem _ (List.mem_cons_self ..))
  rw [white_datum] at hW
  rw [ascii_datum] at hA
  refine ⟨?_, whiteTab_of_reads Tryd.lays199 whiteX hW⟩
  obtain ⟨g, t, cs, fuel, p, hg, hty, hvar, hd⟩ := hA
  obtain rfl := Option.some.inj (ascii0.symm.trans hg)
  obtain rfl := Option.some.inj ((show (Tryd.prog.globals[0]?).map (·.type) = some 34 by kernel_rfl).symm.trans hty)
  unfold Lib.TabIs
  rw [hvar, ← Lib.cells_of_tab Tryd.underlying34 Tryd.underlying5 (by kernel_rfl) (by kernel_rfl) hd]

set_option maxRecDepth 100000 in
theorem lifted (os : Os) (started : os.Started) (H : Type) (enc : TypeId × Value → H) :
    ReturnsInHanded {} Tryd.checked os 3 .any (fun w args => (Rows.fnAtomicJoinIsOrSpec.pre enc Tryd.prog Tryd.f3 Rows.fnAtomicJoinIsOrRow.domain false w args ∧ laidMetH Tryd.prog Rows.fnAtomicJoinIsOrRow.laid w) ∧ sizedMet enc Tryd.prog Tryd.f3 (OpenSpec.ofChange Rows.fnAtomicJoinIsOrSpec) false w args)
      (Rows.fnAtomicJoinIsOrSpec.post enc Tryd.prog Tryd.f3 false true false false) := by
  refine returnsInHanded_of_change_and (C := Tryd.checked) (X := fun w _ => laidMetH Tryd.prog Rows.fnAtomicJoinIsOrRow.laid w) (fun _ _ _ hh h => h.of_heap hh) own started (by kernel_rfl) Tryd.func3
    (ChangeSpec.witness_shaped (enc := enc) (C := Tryd.checked) (os := os) (X := fun w _ => laidMetH Tryd.prog Rows.fnAtomicJoinIsOrRow.laid w) false (World.laidAll Tryd.prog os Rows.fnAtomicJoinIsOrRow.laid) #[.string ⟨#[]⟩, .string ⟨#[]⟩, .string ⟨#[]⟩, .int .i64 0] 8 (World.laidAll_os _ _ _)
      (World.shaped_of_ZipB (by kernel_rfl) (by kernel_rfl)) (by kernel_rfl) (by kernel_rfl) (by kernel_rfl)
      (by rw [MakeChecks.laidMetH_plain _ _ _ (by kernel_rfl)]; exact laidMet_laidAll _ (by kernel_rfl) (by kernel_rfl))) ?_
  intro W base args ds gs before hval0 hW hc _ hL _
  have hval : ∀ (j : Nat) t v, Tryd.f3.params[j]? = some t → args[j]? = some v → Value.okWide Tryd.prog W .any base t v := hval0
  have hW' := hW
  obtain ⟨p, q, hA0, hV, rfl, _, _⟩ := hW
  have hA : DataW.TrodAll enc Tryd.prog W 0 (fun _ => true) true Tryd.f3.params.toList args.toList ds p := hA0
  rw [Tryd.params3] at hA hval
  obtain ⟨v0, vs0, d0, ds0, p0, q0, hargs, rfl, rfl, h0, r0⟩ := trodAll_cons hA
  obtain ⟨v1, vs1, d1, ds1, p1, q1, rfl, rfl, rfl, h1, r1⟩ := trodAll_cons r0
  obtain ⟨v2, vs2, d2, ds2, p2, q2, rfl, rfl, rfl, h2, r2⟩ := trodAll_cons r1
  obtain ⟨v3, vs3, d3, ds3, p3, q3, rfl, rfl, rfl, h3, r3⟩ := trodAll_cons r2
  obtain ⟨rfl, rfl, rfl⟩ := trodAll_nil r3
  obtain rfl : args = #[v0, v1, v2, v3] := by cases args; simp_all
  obtain ⟨rfl, rfl⟩ := trodVars_none hV
  obtain ⟨s0, rfl, rfl, rfl, ws0⟩ := open_string Tryd.underlying9 (hval 0 9 v0 rfl rfl) h0
  obtain ⟨s1, rfl, rfl, rfl, ws1⟩ := open_string Tryd.underlying9 (hval 1 9 v1 rfl rfl) h1
  obtain ⟨s2, rfl, rfl, rfl, ws2⟩ := open_string Tryd.underlying9 (hval 2 9 v2 rfl rfl) h2
  obtain ⟨a3, rfl, rfl, rfl, w3⟩ := open_int Tryd.underlying3 (hval 3 3 v3 rfl rfl) h3
  have hT := tabs_of_laid hL
  clear hA0 hval0 hL
  refine (law_any s0 s1 s2 a3 W hT).mono fun e W' ⟨he, bel⟩ => ?_
  subst he
  exact ⟨_, rfl, _, _, _, [], _, [], hW', trodAll_mk1 (shut_bool Tryd.underlying4 _), (trodAll_cons_mk (shut_string Tryd.underlying9 ws0) (trodAll_cons_mk (shut_string Tryd.underlying9 ws1) (trodAll_cons_mk (shut_string Tryd.underlying9 ws2) (trodAll_cons_mk (shut_int Tryd.underlying3 w3) trodAll_mk0)))), rfl, bel.frame _, fun h => by cases h⟩

theorem holds : Rows.FnAtomicJoinIsOrSaid :=
  OpenClaim.holds_of_wide 3 Tryd.f3 rfl rfl rfl rfl rfl rfl rfl ⟨rfl, rfl, rfl, rfl, rfl⟩ rfl rfl rfl rfl rfl (by kernel_rfl) Tryd.func3 (by kernel_rfl)
    (of_decide_eq_true (by kernel_rfl)) (by unfold Func.isWrapper; first | (rw [if_pos (by decide +kernel)]; kernel_rfl) | (rw [if_neg (by decide +kernel)]; exact ⟨rfl, rfl⟩))
    (fun os started H enc _ => lifted os started H enc)

/-- ████ THE STATEMENT: THE TIED CARD ████ -/
theorem proved : Rows.FnAtomicJoinIsOrCardSaid :=
  Claim7.holds_tied_plain_at .later [] [.listed, .data] true (true, "ae66c5c80d329b8966936bca90aa3aa36a9dc33512f7b1d26680f5c882898efc") false holds (fun _ h => by cases h) (by kernel_rfl) (fun _ h => by cases h) fnAtomicJoinIsOr_row_tie rfl ⟨rfl, rfl⟩ (by kernel_rfl) rfl
    (fun f fn hf hfn => by
      obtain rfl : f = 3 := Option.some.inj ((show Tryd.prog.funcNamed Rows.fnAtomicJoinIsOrRow.func = some 3 by kernel_rfl).symm.trans hf) |>.symm
      obtain rfl : fn = Tryd.f3 := (Option.some.inj (Tryd.func3.symm.trans hfn)).symm
      exact ⟨by kernel_rfl, fun j t ht => by
        rw [Tryd.params3] at ht
        have hm : t ∈ [9, 9, 9, 3] := by simpa using Array.mem_of_getElem? ht
        have hall : ([9, 9, 9, 3].all fun u => !Tryd.prog.wantsStandIn u) = true := by kernel_rfl
        exact (show Tryd.prog.wantsStandIn t = false by simpa using List.all_eq_true.1 hall t hm)⟩)
    (by kernel_rfl)
#print axioms proved
end Go.Proofs.Qxb6618623aDoor
