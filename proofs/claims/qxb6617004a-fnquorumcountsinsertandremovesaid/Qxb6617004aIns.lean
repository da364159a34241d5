import Derived.Test.Qxb6617004aCut
import Derived.Deep.DeepCutAuto
import Derived.Deep.CutBlock
namespace Go.Proofs.Qxb6617004a
open Go.ChangeShapes Go.WideShapes Go.ChangeAt Go.RowKit
set_option linter.unusedVariables false

/-- the voters behind the copy: some slice of n strings ss; nothing that was there has turned -/
def voted (w : World) (ss : List ByteArray) (n : Nat) (v : Value) (wr : World) : Prop := ∃ va cap, v = .slice va n cap ∧ StrsAt wr va ss ∧ Below w.heap.size w wr

theorem StrsAt.get {w : World} {a : Option Addr} {ss : List ByteArray} (h : StrsAt w a ss) {k : Nat} (hk : k < ss.length) : ∃ b off, a = some ⟨b, off, none⟩ ∧ w.cell? ⟨b, off + k, none⟩ = some (.string ss[k]) := by
  rcases h with rfl | ⟨b, off, e, hc⟩
  · simp at hk
  · exact ⟨b, off, e, hc k hk⟩

/-- the place p: all before it are below x, none from it on is -/
def placed (ss : List ByteArray) (x : ByteArray) (n : Nat) (wc : World) (v : Value) (wr : World) : Prop := ∃ p q : Nat, p ≤ n ∧ v = .int .i64 p ∧ split ss x p p ∧ wr = wc.drewN q
def lowTo (ss : List ByteArray) (x : ByteArray) (k : Nat) : Prop := ∀ t, t < k → ∀ h : t < ss.length, Op.bytesLess (ss[t]).toList x.toList = true
theorem lowTo_succ {ss : List ByteArray} {x : ByteArray} {k : Nat} (h : lowTo ss x k) (hk : k < ss.length) {v : ByteArray} (hv : ss[k] = v) (he : cmpB v x < 0) : lowTo ss x (k + 1) := by
  intro t ht h'
  by_cases e : t = k
  · subst e; rw [hv]; exact (cmpB_neg _ _).1 he
  · exact h t (by omega) h'
theorem split_of {ss : List ByteArray} {x : ByteArray} {k : Nat} (hs : Srt ss) (h : lowTo ss x k) (hk : k < ss.length) {v : ByteArray} (hv : ss[k] = v) (he : ¬ cmpB v x < 0) : split ss x k k := by
  refine split_down (hi := ss.length) hs ⟨h, fun t h1 h2 => by omega⟩ hk hv ?_
  rw [cmpB_neg] at he
  simpa using he

theorem app_below {w3 wr w5 : World} {o : Obj} (hb : Below w3.heap.size w3 wr) (hg : (wr.alloc o).grownBy w5 (some w3.heap.size)) : Below w3.heap.size w3 w5 :=
  (hb.alloc hb.size o).grown hg (by have := hb.size; simp; omega) (fun k h => by cases h; exact Nat.le_refl _)
/-- the strings' values -/
def vals (l : List ByteArray) : List Value := l.map Value.string
theorem vals_snoc {l : List ByteArray} {k : Nat} {v : ByteArray} (hk : k < l.length) (hv : l[k] = v) : vals (l.take k) ++ [.string v] = vals (l.take (k + 1)) := by
  unfold vals
  rw [List.take_succ_eq_append_getElem hk, hv]; simp
theorem app_owns {w5 : World} {l : List ByteArray} {k base cap : Nat} {v : ByteArray} {val : Value} (hk : k < l.length) (hv : l[k] = v) (h : w5.ownsRow base 9 1 val cap (vals (l.take k) ++ [.string v])) :
    w5.ownsRow base 9 1 val cap (vals (l.take (k + 1))) := by rwa [vals_snoc hk hv] at h
/-- what is owned is a list of strings -/
theorem owns_strs {w : World} {base g cap : Nat} {l : List ByteArray} (h : w.ownsRow base 9 1 (.slice (some ⟨g, 0, none⟩) l.length cap) l.length (vals l)) : StrsAt w (some ⟨g, 0, none⟩) l := by
  refine Or.inr ⟨g, 0, rfl, fun i hi => ?_⟩
  have := h.cells (g := g) rfl i (.string l[i]) (by simp [vals, hi])
  rwa [Addr.add_lit] at this
/-- the list with x at place p -/
def wl (ss : List ByteArray) (x : ByteArray) (p : Nat) : List ByteArray := ss.take p ++ x :: ss.drop p
theorem wl_len {ss : List ByteArray} {x : ByteArray} {p : Nat} (hp : p ≤ ss.length) : (wl ss x p).length = ss.length + 1 := by simp [wl]; omega
theorem wl_take {ss : List ByteArray} {x : ByteArray} {p : Nat} (hp : p ≤ ss.length) : (wl ss x p).take p = ss.take p := by
  unfold wl
  rw [List.take_append_of_le_length (by simp; omega), List.take_of_length_le (by simp; omega)]
theorem wl_at {ss : List ByteArray} {x : ByteArray} {p : Nat} (hp : p ≤ ss.length) (h : p < (wl ss x p).length) : (wl ss x p)[p] = x := by
  revert h
  unfold wl
  intro h
  rw [List.getElem_append_right (by simp; omega)]
  simp [Nat.min_eq_left hp]
theorem wl_past {ss : List ByteArray} {x : ByteArray} {p k : Nat} (hp : p ≤ k) (hk : k < ss.length) (h : k + 1 < (wl ss x p).length) : (wl ss x p)[k + 1] = ss[k] := by
  revert h
  unfold wl
  intro h
  rw [List.getElem_append_right (by simp; omega)]
  simp only [List.length_take, Nat.min_eq_left (show p ≤ ss.length by omega)]
  obtain ⟨d, rfl⟩ : ∃ d, k = p + d := ⟨k - p, by omega⟩
  simp only [show p + d + 1 - p = d + 1 by omega, List.getElem_cons_succ, List.getElem_drop]

theorem beq_swap (x y : ByteArray) : (x.toList == y.toList) = (y.toList == x.toList) := by
  rw [Bool.eq_iff_iff, beq_iff_eq, beq_iff_eq]; exact ⟨Eq.symm, Eq.symm⟩
theorem hasB_cons (s : ByteArray) (l : List ByteArray) (y : ByteArray) : hasB (s :: l) y = ((s.toList == y.toList) || hasB l y) := rfl
theorem hasB_wl (ss : List ByteArray) (x y : ByteArray) (p : Nat) : hasB (wl ss x p) y = ((y.toList == x.toList) || hasB ss y) := by
  unfold wl
  rw [hasB_append, hasB_cons, hasB_cut ss p y, beq_swap x y]
  cases hasB (ss.take p) y <;> cases hasB (ss.drop p) y <;> cases (y.toList == x.toList) <;> rfl
theorem srt_wl {ss : List ByteArray} {x : ByteArray} {p : Nat} (hs : Srt ss) (h : split ss x p p) : Srt (wl ss x p) := by
  unfold wl Srt
  have hin : ∀ s ∈ ss.take p, Op.bytesLess s.toList x.toList = true := by
    intro s hm
    obtain ⟨i, hi, rfl⟩ := List.mem_iff_getElem.1 hm
    rw [List.getElem_take]
    exact h.1 i (by simp at hi; omega) (by simp at hi; omega)
  have hout : ∀ s ∈ ss.drop p, Op.bytesLess s.toList x.toList = false := by
    intro s hm
    obtain ⟨i, hi, rfl⟩ := List.mem_iff_getElem.1 hm
    rw [List.getElem_drop]
    exact h.2 (p + i) (by omega) (by simp at hi; omega)
  have hcut : (ss.take p ++ ss.drop p).Pairwise fun a b => Op.bytesLess b.toList a.toList = false := by rw [List.take_append_drop]; exact hs
  rw [List.pairwise_append] at hcut ⊢
  refine ⟨hcut.1, List.pairwise_cons.2 ⟨hout, hcut.2.1⟩, fun a ha b hb => ?_⟩
  rcases List.mem_cons.1 hb with rfl | hb
  · exact bl_asymm _ _ (hin a ha)
  · exact hcut.2.2 a ha b hb
/-- the list without x -/
def fl (ss : List ByteArray) (x : ByteArray) : List ByteArray := ss.filter fun s => !(s.toList == x.toList)
theorem srt_fl {ss : List ByteArray} {x : ByteArray} (hs : Srt ss) : Srt (fl ss x) := List.Pairwise.filter _ hs
theorem hasB_fl (ss : List ByteArray) (x y : ByteArray) : hasB (fl ss x) y = (!(y.toList == x.toList) && hasB ss y) := by
  unfold fl hasB
  rw [List.any_filter]
  induction ss with
  | nil => simp
  | cons s l ih =>
    rw [List.any_cons, List.any_cons, ih]
    by_cases e : s.toList = y.toList
    · rw [e]; cases (y.toList == x.toList) <;> simp
    · rw [beq_false_of_ne e]; simp
theorem fl_len (ss : List ByteArray) (x : ByteArray) (k : Nat) : (fl (ss.take k) x).length ≤ k := by
  have := List.length_filter_le (fun s : ByteArray => !(s.toList == x.toList)) (ss.take k)
  unfold fl
  simp at this ⊢; omega
theorem fl_keep {ss : List ByteArray} {x v : ByteArray} {k : Nat} (hk : k < ss.length) (hv : ss[k] = v) (h : (v.toList == x.toList) = false) : fl (ss.take (k + 1)) x = fl (ss.take k) x ++ [v] := by
  unfold fl
  rw [List.take_succ_eq_append_getElem hk, hv, List.filter_append]
  simp [h]
theorem fl_drop {ss : List ByteArray} {x v : ByteArray} {k : Nat} (hk : k < ss.length) (hv : ss[k] = v) (h : (v.toList == x.toList) = true) : fl (ss.take (k + 1)) x = fl (ss.take k) x := by
  unfold fl
  rw [List.take_succ_eq_append_getElem hk, hv, List.filter_append]
  simp [h]
theorem fl_owns {w5 : World} {ss : List ByteArray} {x v : ByteArray} {k base m : Nat} {val : Value} (hk : k < ss.length) (hv : ss[k] = v) (h : (v.toList == x.toList) = false) (ho : w5.ownsRow base 9 1 val m (vals (fl (ss.take k) x) ++ [.string v])) :
    w5.ownsRow base 9 1 val m (vals (fl (ss.take (k + 1)) x)) := by
  rw [fl_keep hk hv h]
  simpa [vals] using ho

set_option maxRecDepth 100000 in
set_option maxHeartbeats 4000000 in
theorem ins_any (self : ByteArray) (a : Option Addr) (cap : Nat) (ss : List ByteArray) (x y : ByteArray) (w : World)
    (hs : StrsAt w a ss) (hn : ss.length ≤ maxLen) (hz : ∀ s ∈ ss, s.size ≤ maxLen) (hx : x.size ≤ maxLen) :
    Calls Try.prog 4 #[.string self, .slice a ss.length cap, .string x, .string y] w fun e w' => e = .returned (.bool true) ∧ Below w.heap.size w w' := by
  have H5 := hide (bytes_ins_any self a cap ss x y w hs hn)
  have H6 := hide (big_any self a cap ss x y w hs hn)
  have H7 := hide (sorted_any a cap ss w hs hn hz)
  have HS := hide hs
  have HZ := hide hz
  have HX := hide hx
  obtain ⟨n, hn'⟩ : ∃ n, n = ss.length := ⟨_, rfl⟩
  rw [← hn'] at H5 H6 H7 hn ⊢
  have HN := hide hn'
  clear hs hz hn' hx
  unfold maxLen at hn
  go_enter Try.func4, Try.ntmps4
  go_wp2_with fail
  refine H5.out.mono ?_
  rintro e w' ⟨⟨b, rfl⟩, rfl⟩
  clear H5
  cases b
  · go_wp2
    go_ret
    exact ⟨rfl, Below.refl _ _⟩
  go_wp2_with fail
  refine H6.out.mono ?_
  rintro e w' ⟨⟨b, rfl, hb⟩, rfl⟩
  clear H6
  cases b
  rotate_left
  · clear hb
    go_wp2
    go_ret
    exact ⟨rfl, Below.refl _ _⟩
  have hbig := hb rfl
  clear hb
  go_wp2_with fail
  refine H7.out.mono ?_
  rintro e w' ⟨⟨b, rfl, hb⟩, q, rfl⟩
  clear H7
  cases b
  · clear hb
    go_wp2
    go_ret
    exact ⟨rfl, below_drewN (Below.refl _ _) _⟩
  have HSR := hide (hb rfl)
  clear hb
  have hnn : ∀ w, (binOp .neq 22 (.slice a n cap) (.slice none 0 0)).run Try.prog w = .ok (.bool (!a.isNone)) w := fun w => run_neq_slice_nil_any w 22 9 a n cap 0 0 Try.underlying22
  go_upto_if 32 with fail
  go_cut [1, 9] (fun v z wr => voted w' ss n v wr)
  case first =>
    have hmk := run_make_row' (P := Try.prog) 22 9 (.string ByteArray.empty) 16 Try.underlying22 Try.info9 rfl .i64 .i64 n (by omega) (by omega)
    obtain ⟨cs, hcs⟩ : ∃ cs : List Value, cs = ss.map Value.string := ⟨_, rfl⟩
    have hcl : cs.length = n := by rw [hcs, HN.out]; simp
    have HCL := hide hcl
    have HCS := hide hcs
    clear hcl hcs
    cases a with
    | none =>
      simp only [Option.isNone_none, Bool.not_true] at hnn
      go_wp2
      go_meet
      exact ⟨_, _, rfl, HS.out.later (below_drewN (Below.refl _ _) q), below_drewN (Below.refl _ _) q⟩
    | some ad =>
      simp only [Option.isNone_some, Bool.not_false] at hnn
      go_wp2_with (refine wpList_copy_splice rfl (.tmp 36) (.tmp 37) 22 22 rfl 9 Try.underlying22 Try.size9 _ _ _ _ _ _ rfl rfl w'.heap.size 0 (madeCells #[.string ByteArray.empty] n).toList 9 ?hg cs ?hn ?hpos ?hfit ?h1 w'.heap.size w' ?hb (Nat.le_refl _) ?_)
      case hg => rw [heap_new]
      case hn => rw [HCL.out]; exact (Nat.min_self n).symm
      case hpos =>
        intro _ j v hj
        exact src_cells (HS.out.later (bthen (below_drewN (Below.refl _ _) q) ((Below.refl _ _).alloc (Nat.le_refl _) _))) HCS.out hj
      case hfit => rw [HCL.out, made_len, Nat.zero_add]; exact Nat.le_refl _
      case h1 => exact one_cells HCS.out
      case hb => exact bthen (below_drewN (Below.refl _ _) q) ((Below.refl _ _).alloc (Nat.le_refl _) _)
      intro w2 HG hb2
      have HV := hide (row_strs (ss := ss) HG.out HCS.out (by rw [HCL.out, made_len]))
      clear HG HS hnn hmk HCS HCL
      go_wp2
      go_meet
      exact ⟨_, _, rfl, HV.out, hb2⟩
  case rest =>
    obtain ⟨va, cap', rfl, hV, hb2⟩ := hcut
    have HV := hide hV
    clear hV HS hnn
    obtain ⟨w2, rfl⟩ : ∃ w2 : World, w2 = wc := ⟨_, rfl⟩
    go_upto_block 0 with fail
    go_cut [10] (fun p wr => placed ss x n w2 p wr)
    case first =>
      go_wp2_with fail
      go_loopw [10] (fun i wr => ∃ k q : Nat, k ≤ n ∧ i = .int .i64 k ∧ Hid (lowTo ss x k) ∧ wr = w2.drewN q) (fun i _ => n - (intOf i).toNat)
      case atStart => exact ⟨0, 0, Nat.zero_le _, rfl, fun t h => by omega, rfl⟩
      case round =>
        obtain ⟨k, q, hk, rfl, HT, hwr⟩ := hrel
        have HW := hide hwr
        clear hwr
        by_cases hlt : k < n
        · have hlt' : k < ss.length := by rw [← HN.out]; exact hlt
          obtain ⟨b, off, rfl, hc⟩ := HV.out.get hlt'
          have hc' : wr.cell? ⟨b, off + k, none⟩ = some (.string ss[k]) := by rw [HW.out]; exact hc
          clear hc
          obtain ⟨v, hv⟩ : ∃ v, ss[k] = v := ⟨_, rfl⟩
          have hzv : v.size ≤ maxLen := by rw [← hv]; exact HZ.out _ (List.getElem_mem _)
          rw [hv] at hc'
          have HC := hide (cmp_any v x hzv HX.out wr)
          have HY := hide hv
          clear hv hzv
          by_cases c1 : cmpB v x < 0
          · have HT' : Hid (lowTo ss x (k + 1)) := lowTo_succ HT.out hlt' HY.out c1
            go_wp2_with fail
            refine HC.out.mono ?_
            rintro e w3 ⟨rfl, d, rfl⟩
            go_wp2_with fail
            go_roundw
            case rel => exact ⟨k + 1, _, by omega, by go_num, HT', by rw [HW.out]; exact dr2 _ _ _⟩
            case measure => simp [intOf]; omega
          · have HT' : Hid (split ss x k k) := split_of HSR.out HT.out hlt' HY.out c1
            go_wp2_with fail
            refine HC.out.mono ?_
            rintro e w3 ⟨rfl, d, rfl⟩
            go_wp2_with fail
            go_meet
            exact ⟨k, _, hk, rfl, HT'.out, by rw [HW.out]; exact dr2 _ _ _⟩
        · have HT' : Hid (split ss x k k) := ⟨fun t h1 h2 => HT.out t h1 h2, fun t h1 h2 => by have := HN.out; omega⟩
          go_wp2_with fail
          go_meet
          exact ⟨k, _, hk, rfl, HT'.out, HW.out⟩
    case rest =>
      obtain ⟨p, q', hp, rfl, hsp, hw3⟩ := hcut
      have HP := hide hsp
      have HV3 : Hid (StrsAt wc va ss) := by rw [hw3]; exact HV.out.later (below_drewN (Below.refl _ _) _)
      have hb3 : Below w'.heap.size w' wc := by rw [hw3]; exact below_drewN hb2 _
      clear hsp hw3 HV hb2
      obtain ⟨w3, rfl⟩ : ∃ w3 : World, w3 = wc := ⟨_, rfl⟩
      obtain ⟨i9, hi, hz0, hz1, hz2⟩ := info_parts Try.info9
      have HI := hide hi
      have HI0 := hide hz0
      have HI1 := hide hz1
      have HI2 := hide hz2
      clear hi hz0 hz1 hz2
      go_wp2_with (at_make; refine wpList_make_own _ rfl _ _ 22 rfl w3.heap.size 9 i9 (.string ByteArray.empty) 1 Try.underlying22 HI.out HI0.out HI1.out _ _ _ (n + 1) rfl rfl ?m1 ?m2 ?m3 ?m4 ?_)
      case m1 => omega
      case m2 => rw [HI2.out]; omega
      case m3 => unfold maxLen; omega
      case m4 => exact Nat.le_refl _
      intro w4 hown4 hgrow4
      have hb4 : Below w3.heap.size w3 w4 := (Below.refl _ _).grown hgrow4 (Nat.le_refl _) (fun k h => by cases h)
      have HO4 := hide hown4
      clear hown4 hgrow4
      go_wp2_with fail
      go_loopw [11, 12] (fun v i wr => ∃ k : Nat, k ≤ p ∧ i = .int .i64 k ∧ v = .slice (some ⟨w3.heap.size, 0, none⟩) k (n + 1) ∧ Hid (wr.ownsRow w3.heap.size 9 1 (.slice (some ⟨w3.heap.size, 0, none⟩) k (n + 1)) k (vals (ss.take k))) ∧ Below w3.heap.size w3 wr) (fun _ i _ => p - (intOf i).toNat)
      case atStart => exact ⟨0, Nat.zero_le _, rfl, rfl, HO4.out, hb4⟩
      case round =>
        clear HO4 hb4
        obtain ⟨k, hk, rfl, rfl, HO, hb⟩ := hrel
        by_cases hlt : k < p
        · have hlt' : k < ss.length := by rw [← HN.out]; omega
          have hltn : k < n := by omega
          obtain ⟨b, off, rfl, hc⟩ := (HV3.out.later hb).get hlt'
          obtain ⟨v, hv⟩ : ∃ v, ss[k] = v := ⟨_, rfl⟩
          rw [hv] at hc
          have HY := hide hv
          clear hv
          have hsz := hb.size
          go_wp2_with (at_builtin; refine wpList_append_fits _ rfl (.tmp 64) (.tmp 69) 22 rfl w3.heap.size 9 i9 1 Try.underlying22 HI.out HI1.out w3.heap.size k (n + 1) (vals (ss.take k)) rfl (HO.out.alloc _) ⟨wr.heap.size, 0, none⟩ 1 1 [.string v] rfl rfl ?c1 ?c2 ?c3 ?_)
          case c1 => exact cell_one_new _ _ _
          case c2 => exact fun u hu => by simp at hu; subst hu; rfl
          case c3 => omega
          intro w5 hown5 hgrow5
          have hb5 := app_below hb hgrow5
          have HO5 := hide (app_owns hlt' HY.out hown5)
          clear hown5 hgrow5 hb HO hc
          go_wp2_with fail
          go_roundw
          case rel => exact ⟨k + 1, by omega, by go_num, rfl, HO5, hb5⟩
          case measure => simp [intOf]; omega
        · have e : k = p := by omega
          subst e
          have hsz := hb.size
          have hkS : k ≤ ss.length := by rw [← HN.out]; omega
          have HL : Hid ((wl ss x k).length = n + 1) := by rw [HN.out]; exact wl_len hkS
          have HO1 : Hid (wr.ownsRow w3.heap.size 9 1 (.slice (some ⟨w3.heap.size, 0, none⟩) k (n + 1)) k (vals ((wl ss x k).take k))) := by rw [wl_take hkS]; exact HO.out
          clear HO
          go_wp2_with (at_builtin; refine wpList_append_fits _ rfl (.tmp 71) (.tmp 73) 22 rfl w3.heap.size 9 i9 1 Try.underlying22 HI.out HI1.out w3.heap.size k (n + 1) (vals ((wl ss x k).take k)) rfl (HO1.out.alloc _) ⟨wr.heap.size, 0, none⟩ 1 1 [.string x] rfl rfl ?d1 ?d2 ?d3 ?_)
          case d1 => exact cell_one_new _ _ _
          case d2 => exact fun u hu => by simp at hu; subst hu; rfl
          case d3 => omega
          intro w5 hown5 hgrow5
          have hb5 := app_below hb hgrow5
          have HO5 := hide (app_owns (by have := HL.out; omega) (wl_at hkS (by have := HL.out; omega)) hown5)
          clear hown5 hgrow5 hb HO1 hsz
          go_wp2_with fail
          go_loopw [11, 13] (fun v i wr => ∃ j : Nat, k ≤ j ∧ j ≤ n ∧ i = .int .i64 j ∧ v = .slice (some ⟨w3.heap.size, 0, none⟩) (j + 1) (n + 1) ∧ Hid (wr.ownsRow w3.heap.size 9 1 (.slice (some ⟨w3.heap.size, 0, none⟩) (j + 1) (n + 1)) (j + 1) (vals ((wl ss x k).take (j + 1)))) ∧ Below w3.heap.size w3 wr) (fun _ i _ => n - (intOf i).toNat)
          case atStart => exact ⟨k, Nat.le_refl _, hp, rfl, rfl, HO5, hb5⟩
          case round =>
            clear HO5 hb5
            obtain ⟨j, hj, hjn, rfl, rfl, HO, hb⟩ := hrel
            by_cases hlt : j < n
            · have hlt' : j < ss.length := by rw [← HN.out]; omega
              obtain ⟨b, off, rfl, hc⟩ := (HV3.out.later hb).get hlt'
              obtain ⟨v, hv⟩ : ∃ v, ss[j] = v := ⟨_, rfl⟩
              rw [hv] at hc
              have HY := hide ((wl_past (x := x) hj hlt' (by have := HL.out; omega)).trans hv)
              clear hv
              have hsz := hb.size
              go_wp2_with (at_builtin; refine wpList_append_fits _ rfl (.tmp 82) (.tmp 87) 22 rfl w3.heap.size 9 i9 1 Try.underlying22 HI.out HI1.out w3.heap.size (j + 1) (n + 1) (vals ((wl ss x k).take (j + 1))) rfl (HO.out.alloc _) ⟨wr.heap.size, 0, none⟩ 1 1 [.string v] rfl rfl ?e1 ?e2 ?e3 ?_)
              case e1 => exact cell_one_new _ _ _
              case e2 => exact fun u hu => by simp at hu; subst hu; rfl
              case e3 => omega
              intro w5 hown5 hgrow5
              have hb5 := app_below hb hgrow5
              have HO5 := hide (app_owns (by have := HL.out; omega) HY.out hown5)
              clear hown5 hgrow5 hb HO hc
              go_wp2_with fail
              go_roundw
              case rel => exact ⟨j + 1, by omega, by omega, by go_num, rfl, HO5, hb5⟩
              case measure => simp [intOf]; omega
            · have e : j = n := by omega
              subst e
              have HW : Hid (StrsAt wr (some ⟨w3.heap.size, 0, none⟩) (wl ss x k)) := by
                have h := HO.out
                rw [List.take_of_length_le (by rw [HL.out]; exact Nat.le_refl _)] at h
                rw [← HL.out] at h
                exact owns_strs h
              have hb6 := bthen hb3 hb
              have HV6 := hide (HV3.out.later hb)
              clear HO hb HL hb3 HV3
              obtain ⟨w6, rfl⟩ : ∃ w6 : World, w6 = wr := ⟨_, rfl⟩
              go_wp2_with (at_make; refine wpList_make_own _ rfl _ _ 22 rfl w6.heap.size 9 i9 (.string ByteArray.empty) 1 Try.underlying22 HI.out HI0.out HI1.out _ _ _ j rfl rfl ?n1 ?n2 ?n3 ?n4 ?_)
              case n1 => rfl
              case n2 => rw [HI2.out]; omega
              case n3 => unfold maxLen; omega
              case n4 => exact Nat.le_refl _
              intro w7 hown7 hgrow7
              have hb7 : Below w6.heap.size w6 w7 := (Below.refl _ _).grown hgrow7 (Nat.le_refl _) (fun k h => by cases h)
              have HO7 := hide hown7
              clear hown7 hgrow7
              go_wp2_with fail
              go_loopw [14, 15] (fun v i wr => ∃ t m : Nat, t ≤ j ∧ i = .int .i64 t ∧ m ≤ t ∧ v = .slice (some ⟨w6.heap.size, 0, none⟩) m j ∧ Hid (m = (fl (ss.take t) x).length) ∧ Hid (wr.ownsRow w6.heap.size 9 1 (.slice (some ⟨w6.heap.size, 0, none⟩) m j) m (vals (fl (ss.take t) x))) ∧ Below w6.heap.size w6 wr) (fun _ i _ => j - (intOf i).toNat)
              case atStart => exact ⟨0, 0, Nat.zero_le _, rfl, Nat.le_refl _, rfl, rfl, HO7.out, hb7⟩
              case round =>
                clear HO7 hb7
                obtain ⟨t, m, ht, rfl, hmt, rfl, HM, HO, hb⟩ := hrel
                by_cases hlt : t < j
                · have hlt' : t < ss.length := by rw [← HN.out]; omega
                  obtain ⟨b, off, rfl, hc⟩ := (HV6.out.later hb).get hlt'
                  obtain ⟨v, hv⟩ : ∃ v, ss[t] = v := ⟨_, rfl⟩
                  rw [hv] at hc
                  have HY := hide hv
                  clear hv
                  have hsz := hb.size
                  cases c1 : (v.toList == x.toList)
                  · go_wp2_with (at_builtin; refine wpList_append_fits _ rfl (.tmp 104) (.tmp 109) 22 rfl w6.heap.size 9 i9 1 Try.underlying22 HI.out HI1.out w6.heap.size m j (vals (fl (ss.take t) x)) rfl (HO.out.alloc _) ⟨wr.heap.size, 0, none⟩ 1 1 [.string v] rfl rfl ?f1 ?f2 ?f3 ?_)
                    case f1 => exact cell_one_new _ _ _
                    case f2 => exact fun u hu => by simp at hu; subst hu; rfl
                    case f3 => omega
                    intro w8 hown8 hgrow8
                    have hb8 := app_below hb hgrow8
                    have HO8 := hide (fl_owns hlt' HY.out c1 hown8)
                    have HM8 : Hid (m + 1 = (fl (ss.take (t + 1)) x).length) := by have h := HM.out; rw [fl_keep hlt' HY.out c1, List.length_append, ← h]; rfl
                    clear hown8 hgrow8 hb HO hc HM
                    go_wp2_with fail
                    go_roundw
                    case rel => exact ⟨t + 1, m + 1, by omega, by go_num, by omega, rfl, HM8, HO8, hb8⟩
                    case measure => simp [intOf]; omega
                  · have HO8 : Hid (wr.ownsRow w6.heap.size 9 1 (.slice (some ⟨w6.heap.size, 0, none⟩) m j) m (vals (fl (ss.take (t + 1)) x))) := by rw [fl_drop hlt' HY.out c1]; exact HO.out
                    have HM8 : Hid (m = (fl (ss.take (t + 1)) x).length) := by rw [fl_drop hlt' HY.out c1]; exact HM.out
                    clear HO HM
                    go_wp2_with fail
                    go_roundw
                    case rel => exact ⟨t + 1, m, by omega, by go_num, by omega, rfl, HM8, HO8, hb⟩
                    case measure => simp [intOf]; omega
                · have e : t = j := by omega
                  subst e
                  have HF : Hid (StrsAt wr (some ⟨w6.heap.size, 0, none⟩) (fl ss x) ∧ m = (fl ss x).length) := by
                    have h := HO.out
                    have h2 := HM.out
                    rw [List.take_of_length_le (by rw [← HN.out]; exact Nat.le_refl _)] at h h2
                    refine ⟨?_, h2⟩
                    rw [h2] at h
                    exact owns_strs h
                  have hb9 : Below wr.heap.size wr wr := Below.refl _ _
                  have H9 : Hid (∀ w, Below wr.heap.size wr w → Calls Try.prog 9 #[.slice va t cap', .string y] w fun e w' => e = .returned (.bool (hasB ss y)) ∧ w' = w) := by
                    intro w h
                    have := contains_any va cap' ss y w ((HV6.out.later hb).later h) (by rw [← HN.out]; unfold maxLen; omega)
                    rwa [← HN.out] at this
                  have H8v : Hid (∀ w, Below wr.heap.size wr w → Calls Try.prog 8 #[.string self, .slice va t cap', .string y] w fun e w' => e = .returned (.bool (hasB ss y)) ∧ Below w.heap.size w w') := by
                    intro w h
                    have := quorum_any self va cap' ss y w ((HV6.out.later hb).later h) (by rw [← HN.out]; omega) HSR.out
                    rwa [← HN.out] at this
                  have H8w : Hid (∀ z w, Below wr.heap.size wr w → Calls Try.prog 8 #[.string self, .slice (some ⟨w3.heap.size, 0, none⟩) (t + 1) (t + 1), .string z] w fun e w' => e = .returned (.bool ((z.toList == x.toList) || hasB ss z)) ∧ Below w.heap.size w w') := by
                    intro z w h
                    have hl : (wl ss x k).length = t + 1 := by rw [wl_len hkS, ← HN.out]
                    have := quorum_any self (some ⟨w3.heap.size, 0, none⟩) (t + 1) (wl ss x k) z w ((HW.out.later hb).later h) (by omega) (srt_wl HSR.out HP.out)
                    rwa [hl, hasB_wl] at this
                  have H8f : Hid (∀ z w, Below wr.heap.size wr w → Calls Try.prog 8 #[.string self, .slice (some ⟨w6.heap.size, 0, none⟩) m t, .string z] w fun e w' => e = .returned (.bool (!(z.toList == x.toList) && hasB ss z)) ∧ Below w.heap.size w w') := by
                    intro z w h
                    have := quorum_any self (some ⟨w6.heap.size, 0, none⟩) t (fl ss x) z w (HF.out.1.later h) (by rw [← HF.out.2]; omega) (srt_fl HSR.out)
                    rwa [← HF.out.2, hasB_fl] at this
                  have hxx : (x.toList == x.toList) = true := by simp
                  have H8wx : Hid (∀ w, Below wr.heap.size wr w → Calls Try.prog 8 #[.string self, .slice (some ⟨w3.heap.size, 0, none⟩) (t + 1) (t + 1), .string x] w fun e w' => e = .returned (.bool true) ∧ Below w.heap.size w w') := by
                    intro w h
                    have := H8w.out x w h
                    rwa [hxx, Bool.true_or] at this
                  have H8fx : Hid (∀ w, Below wr.heap.size wr w → Calls Try.prog 8 #[.string self, .slice (some ⟨w6.heap.size, 0, none⟩) m t, .string x] w fun e w' => e = .returned (.bool false) ∧ Below w.heap.size w w') := by
                    intro w h
                    have := H8f.out x w h
                    rwa [hxx, Bool.not_true, Bool.false_and] at this
                  have H8wy := hide (H8w.out y)
                  have H8fy := hide (H8f.out y)
                  have hfin : Below w'.heap.size w' wr := bthen hb6 hb
                  clear hxx H8w H8f HF HV6 HW HO HM HSR HP HN hb hb6 hlt
                  generalize hasB ss y = r at H9 H8v H8wy H8fy
                  cases c : (y.toList == x.toList)
                  all_goals
                    rw [c] at H8wy H8fy
                    cases r
                    all_goals
                      simp only [Bool.or_true, Bool.or_false, Bool.and_true, Bool.and_false, Bool.not_true, Bool.not_false] at H8wy H8fy
                      go_wp2_with fail
                      refine (H9.out _ hb9).mono ?_
                      rintro e v1 ⟨rfl, hv1⟩
                      subst hv1
                      go_wp2_with fail
                      refine (H8wx.out _ hb9).mono ?_
                      rintro e v1 ⟨rfl, k1⟩
                      go_wp2_with fail
                      refine (H8fx.out _ k1).mono ?_
                      rintro e v2 ⟨rfl, k2'⟩
                      have k2 := bthen k1 k2'
                      clear k2'
                      go_wp2_with fail
                      refine (H8wy.out _ k2).mono ?_
                      rintro e v3 ⟨rfl, k3'⟩
                      have k3 := bthen k2 k3'
                      clear k3'
                      go_wp2_with fail
                      refine (H8fy.out _ k3).mono ?_
                      rintro e v4 ⟨rfl, k4'⟩
                      have k4 := bthen k3 k4'
                      clear k4'
                      go_wp2_with fail
                      refine (H8v.out _ k4).mono ?_
                      rintro e v5 ⟨rfl, k5'⟩
                      have k5 := bthen k4 k5'
                      clear k5'
                      go_wp2_with fail
                      go_ret
                      exact ⟨rfl, bthen hfin k5⟩
end Go.Proofs.Qxb6617004a
