import Derived.Test.Qxb6617004aBig
import Derived.Laws.CopyOwn
import Derived.Deep.OwnRows
namespace Go.Proofs.Qxb6617004a
open Go.ChangeShapes Go.WideShapes Go.ChangeAt Go.RowKit
set_option linter.unusedVariables false

theorem Try.info9 : (Try.prog.info? 9).map (fun i => (i.zero, i.size, i.bytes)) = some (some (.string ByteArray.empty), 1, 16) := by kernel_rfl
theorem Try.size9 : (Try.prog.info? 9).map (·.size) = some 1 := by kernel_rfl
theorem bthen {a b c : World} (h : Below a.heap.size a b) (k : Below b.heap.size b c) : Below a.heap.size a c := h.trans (k.mono h.size)
theorem hide {p : Prop} (h : p) : Hid p := h

set_option maxHeartbeats 2000000 in
theorem cut_nil (self x : ByteArray) (k : Int) (w : World) :
    Calls Try.prog 3 #[.string self, .slice none 0 0, .string x, .int .i64 k] w fun e w' => e = .returned (.bool true) ∧ Below w.heap.size w w' := by
  have nil : ∀ w : World, StrsAt w none [] := fun _ => Or.inl rfl
  have H5 := hide (bytes_cut_any self none 0 [] x k w (nil w) (by simp [maxLen]))
  have H6 := hide (big_any self none 0 [] x ⟨#[]⟩ w (nil w) (by simp [maxLen]))
  have H7 := hide (sorted_any none 0 [] w (nil w) (by simp [maxLen]) (by simp))
  have H8 := hide (fun s w => quorum_any s none 0 [] x w (nil w) (by simp) List.Pairwise.nil)
  have H9 := hide (fun w => contains_any none 0 [] x w (nil w) (by simp [maxLen]))
  simp only [List.length_nil, hasB_nil] at H5 H6 H7 H8 H9
  clear nil
  by_cases hk : k = 0
  · subst hk
    go_enter Try.func3, Try.ntmps3
    go_wp2_with fail
    refine H5.out.mono ?_
    rintro e w' ⟨⟨b, rfl⟩, rfl⟩
    cases b
    · go_wp2
      go_ret
      exact ⟨rfl, Below.refl _ _⟩
    go_wp2_with fail
    refine H6.out.mono ?_
    rintro e w' ⟨⟨b, rfl, hb⟩, rfl⟩
    clear hb
    cases b
    rotate_left
    · go_wp2
      go_ret
      exact ⟨rfl, Below.refl _ _⟩
    go_wp2_with fail
    refine H7.out.mono ?_
    rintro e w' ⟨⟨b, rfl, hb⟩, q, rfl⟩
    clear hb
    cases b
    · go_wp2
      go_ret
      exact ⟨rfl, below_drewN (Below.refl _ _) _⟩
    go_wp2_with fail
    refine (H8.out _ _).mono ?_
    rintro e w1 ⟨rfl, hb1⟩
    go_wp2_with fail
    refine (H8.out _ _).mono ?_
    rintro e w2 ⟨rfl, hb2⟩
    go_wp2_with fail
    refine (H8.out _ _).mono ?_
    rintro e w3 ⟨rfl, hb3⟩
    go_wp2_with fail
    refine (H8.out _ _).mono ?_
    rintro e w4 ⟨rfl, hb4⟩
    go_wp2_with fail
    refine (H9.out _).mono ?_
    rintro e w5 ⟨rfl, rfl⟩
    go_wp2_with fail
    refine (H9.out _).mono ?_
    rintro e w5 ⟨rfl, rfl⟩
    go_wp2
    go_ret
    exact ⟨rfl, bthen (bthen (bthen (bthen (below_drewN (Below.refl _ _) q) hb1) hb2) hb3) hb4⟩
  · by_cases hk' : k < 0
    all_goals
      go_enter Try.func3, Try.ntmps3
      go_wp2_with fail
      refine H5.out.mono ?_
      rintro e w' ⟨⟨b, rfl⟩, rfl⟩
      cases b
      · go_wp2
        go_ret
        exact ⟨rfl, Below.refl _ _⟩
      go_wp2_with fail
      refine H6.out.mono ?_
      rintro e w' ⟨⟨b, rfl, hb⟩, rfl⟩
      clear hb
      cases b
      rotate_left
      · go_wp2
        go_ret
        exact ⟨rfl, Below.refl _ _⟩
      go_wp2_with fail
      go_ret
      exact ⟨rfl, Below.refl _ _⟩

theorem bthen' {a b c : World} (h : Below a.heap.size a b) (k : Below b.heap.size b c) : Below a.heap.size a c := bthen h k
theorem StrsAt.take {w : World} {a : Option Addr} {ss : List ByteArray} (h : StrsAt w a ss) (k : Nat) : StrsAt w a (ss.take k) := by
  rcases h with rfl | ⟨b, off, e, hc⟩
  · exact Or.inl (by simp)
  · exact Or.inr ⟨b, off, e, fun i hi => by rw [List.getElem_take]; exact hc i (by simp at hi; omega)⟩
theorem StrsAt.drop0 {w : World} {B : Nat} {ss : List ByteArray} (h : StrsAt w (some ⟨B, 0, none⟩) ss) (k : Nat) :
    StrsAt w (some (if ss.length = k then ⟨B, 0, none⟩ else ⟨B, k, none⟩)) (ss.drop k) := by
  by_cases hk : ss.length = k
  · exact Or.inl (by simp [← hk])
  · rw [if_neg hk]
    rcases h with rfl | ⟨b, off, e, hc⟩
    · exact Or.inl (by simp)
    · simp only [Option.some.injEq, Addr.mk.injEq] at e
      obtain ⟨rfl, rfl, _⟩ := e
      exact Or.inr ⟨B, k, rfl, fun i hi => by rw [List.getElem_drop]; have := hc (k + i) (by simp at hi; omega); rwa [Nat.zero_add] at this⟩
theorem heap_new (w : World) (q : Nat) (o : Obj) : ((w.drewN q).alloc o).heap[w.heap.size]? = some o := by
  show (w.heap.push o)[w.heap.size]? = _
  simp
theorem made_len (z : Value) (n : Nat) : (madeCells #[z] n).toList.length = n := by simp [madeCells]
theorem src_cells {w : World} {ad : Addr} {ss : List ByteArray} {cs : List Value} (h : StrsAt w (some ad) ss) (hc : cs = ss.map Value.string) {j : Nat} {v : Value} (hj : cs[j]? = some v) : w.cell? (ad.add j) = some v := by
  subst hc
  rw [List.getElem?_map, Option.map_eq_some_iff] at hj
  obtain ⟨s, hs, rfl⟩ := hj
  obtain ⟨hl, rfl⟩ := List.getElem?_eq_some_iff.1 hs
  rcases h with rfl | ⟨b, off, e, hc⟩
  · simp at hl
  · obtain rfl := Option.some.inj e
    rw [Addr.add_lit]
    exact hc j hl
theorem one_cells {ss : List ByteArray} {cs : List Value} (hc : cs = ss.map Value.string) : ∀ v ∈ cs, v.oneCell' = true := by
  subst hc
  intro v hv
  obtain ⟨s, _, rfl⟩ := List.mem_map.1 hv
  rfl
theorem row_strs {w : World} {B : Nat} {ss : List ByteArray} {cs cur : List Value} {t : TypeId} (h : w.heap[B]? = some (.cells (splice cur 0 cs).toArray t (0, 0))) (hc : cs = ss.map Value.string) (hl : cs.length = cur.length) :
    StrsAt w (some ⟨B, 0, none⟩) ss := by
  have e : splice cur 0 cs = cs := by simp [splice, hl]
  rw [e] at h
  subst hc
  refine Or.inr ⟨B, 0, rfl, fun i hi => ?_⟩
  simp [World.cell?, h, hi]

set_option maxHeartbeats 2000000 in
theorem cut_some (self : ByteArray) (ad : Addr) (cap : Nat) (ss : List ByteArray) (x : ByteArray) (k : Nat) (w : World)
    (hs : StrsAt w (some ad) ss) (hn : ss.length ≤ maxLen) (hz : ∀ s ∈ ss, s.size ≤ maxLen) (hk : k ≤ ss.length) :
    Calls Try.prog 3 #[.string self, .slice (some ad) ss.length cap, .string x, .int .i64 k] w fun e w' => e = .returned (.bool true) ∧ Below w.heap.size w w' := by
  have H5 := hide (bytes_cut_any self (some ad) cap ss x k w hs hn)
  have H6 := hide (big_any self (some ad) cap ss x ⟨#[]⟩ w hs hn)
  have H7 := hide (sorted_any (some ad) cap ss w hs hn hz)
  have HS := hide hs
  have hnn : ∀ w, (binOp .neq 22 (.slice (some ad) ss.length cap) (.slice none 0 0)).run Try.prog w = .ok (.bool true) w := fun w => run_neq_slice_nil_any w 22 9 (some ad) ss.length cap 0 0 Try.underlying22
  obtain ⟨n, hn'⟩ : ∃ n, n = ss.length := ⟨_, rfl⟩
  rw [← hn'] at H5 H6 H7 hn hk hnn ⊢
  have HN := hide hn'
  clear hs hz hn'
  unfold maxLen at hn
  go_enter Try.func3, Try.ntmps3
  go_wp2_with fail
  refine H5.out.mono ?_
  rintro e w' ⟨⟨b, rfl⟩, rfl⟩
  clear H5
  cases b
  · go_wp2
    go_ret
    exact ⟨rfl, Below.refl _ _⟩
  go_wp2_with fail
  refine H6.out.mono ?_
  rintro e w' ⟨⟨b, rfl, hb⟩, rfl⟩
  clear H6
  cases b
  rotate_left
  · clear hb
    go_wp2
    go_ret
    exact ⟨rfl, Below.refl _ _⟩
  have hbig := hb rfl
  clear hb
  go_wp2_with fail
  refine H7.out.mono ?_
  rintro e w' ⟨⟨b, rfl, hb⟩, q, rfl⟩
  clear H7
  cases b
  · clear hb
    go_wp2
    go_ret
    exact ⟨rfl, below_drewN (Below.refl _ _) _⟩
  have HSR := hide (hb rfl)
  clear hb
  have hmk := run_make_row' (P := Try.prog) 22 9 (.string ByteArray.empty) 16 Try.underlying22 Try.info9 rfl .i64 .i64 n (by omega) (by omega)
  obtain ⟨cs, hcs⟩ : ∃ cs : List Value, cs = ss.map Value.string := ⟨_, rfl⟩
  have hcl : cs.length = n := by rw [hcs, HN.out]; simp
  have HCL := hide hcl
  have HCS := hide hcs
  clear hcl hcs
  go_wp2_with (refine wpList_copy_splice rfl (.tmp 40) (.tmp 41) 22 22 rfl 9 Try.underlying22 Try.size9 _ _ _ _ _ _ rfl rfl w'.heap.size 0 (madeCells #[.string ByteArray.empty] n).toList 9 ?hg cs ?hn ?hpos ?hfit ?h1 w'.heap.size w' ?hb (Nat.le_refl _) ?_)
  case hg => rw [heap_new]
  case hn => rw [HCL.out]; exact (Nat.min_self n).symm
  case hpos =>
    intro _ j v hj
    exact src_cells (HS.out.later (bthen (below_drewN (Below.refl _ _) q) ((Below.refl _ _).alloc (Nat.le_refl _) _))) HCS.out hj
  case hfit => rw [HCL.out, made_len, Nat.zero_add]; exact Nat.le_refl _
  case h1 => exact one_cells HCS.out
  case hb => exact bthen (below_drewN (Below.refl _ _) q) ((Below.refl _ _).alloc (Nat.le_refl _) _)
  intro w2 HG hb2
  have HV := hide (row_strs (ss := ss) HG.out HCS.out (by rw [HCL.out, made_len]))
  clear HG HS hnn hmk HCS HCL
  have H8 : Hid (∀ s w, Below w2.heap.size w2 w → Calls Try.prog 8 #[.string s, .slice (some ⟨w'.heap.size, 0, none⟩) n n, .string x] w fun e w' => e = .returned (.bool (hasB (ss.take k) x || hasB (ss.drop k) x)) ∧ Below w.heap.size w w') := by
    intro s w h
    have := quorum_any s (some ⟨w'.heap.size, 0, none⟩) n ss x w (HV.out.later h) (by rw [← HN.out]; omega) HSR.out
    rwa [← HN.out, hasB_cut ss k x] at this
  have H8l : Hid (∀ s w, Below w2.heap.size w2 w → Calls Try.prog 8 #[.string s, .slice (some ⟨w'.heap.size, 0, none⟩) k n, .string x] w fun e w' => e = .returned (.bool (hasB (ss.take k) x)) ∧ Below w.heap.size w w') := by
    intro s w h
    have := quorum_any s (some ⟨w'.heap.size, 0, none⟩) n (ss.take k) x w ((HV.out.later h).take k) (by simp; omega) (List.Pairwise.take HSR.out)
    rwa [List.length_take, ← HN.out, Nat.min_eq_left hk] at this
  have H8r : Hid (∀ s w, Below w2.heap.size w2 w → Calls Try.prog 8 #[.string s, .slice (some (if n = k then ⟨w'.heap.size, 0, none⟩ else ⟨w'.heap.size, k, none⟩)) (n - k) (n - k), .string x] w fun e w' => e = .returned (.bool (hasB (ss.drop k) x)) ∧ Below w.heap.size w w') := by
    intro s w h
    have := quorum_any s (some (if n = k then ⟨w'.heap.size, 0, none⟩ else ⟨w'.heap.size, k, none⟩)) (n - k) (ss.drop k) x w (by rw [HN.out]; exact (HV.out.later h).drop0 k) (by rw [List.length_drop, ← HN.out]; omega) (List.Pairwise.drop HSR.out)
    rwa [List.length_drop, ← HN.out] at this
  have H9 : Hid (∀ w, Below w2.heap.size w2 w → Calls Try.prog 9 #[.slice (some ⟨w'.heap.size, 0, none⟩) n n, .string x] w fun e w' => e = .returned (.bool (hasB (ss.take k) x || hasB (ss.drop k) x)) ∧ w' = w) := by
    intro w h
    have := contains_any (some ⟨w'.heap.size, 0, none⟩) n ss x w (HV.out.later h) (by rw [← HN.out]; unfold maxLen; omega)
    rwa [← HN.out, hasB_cut ss k x] at this
  have H9l : Hid (∀ w, Below w2.heap.size w2 w → Calls Try.prog 9 #[.slice (some ⟨w'.heap.size, 0, none⟩) k n, .string x] w fun e w' => e = .returned (.bool (hasB (ss.take k) x)) ∧ w' = w) := by
    intro w h
    have := contains_any (some ⟨w'.heap.size, 0, none⟩) n (ss.take k) x w ((HV.out.later h).take k) (by simp [maxLen]; omega)
    rwa [List.length_take, ← HN.out, Nat.min_eq_left hk] at this
  generalize hasB (ss.take k) x = rl at H8 H8l H9 H9l
  generalize hasB (ss.drop k) x = rr at H8 H8r H9
  clear HV HN HSR
  have hb0 : Below w2.heap.size w2 w2 := Below.refl _ _
  go_wp2_with fail
  refine (H8.out _ _ hb0).mono ?_
  rintro e w3 ⟨rfl, hb3⟩
  go_wp2_with fail
  refine (H8l.out _ _ hb3).mono ?_
  rintro e w4 ⟨rfl, hb4'⟩
  have hb4 := bthen hb3 hb4'
  clear hb4'
  by_cases hkn : n = k
  · subst hkn
    simp only [if_true, Nat.sub_self] at H8r
    go_wp2_with fail
    refine (H8r.out _ _ hb4).mono ?_
    rintro e w5 ⟨rfl, hb5'⟩
    have hb5 := bthen hb4 hb5'
    clear hb5'
    go_wp2_with fail
    refine (H8.out _ _ hb5).mono ?_
    rintro e w6 ⟨rfl, hb6'⟩
    have hb6 := bthen hb5 hb6'
    clear hb6'
    go_wp2_with fail
    refine (H9.out _ hb6).mono ?_
    rintro e w7 ⟨rfl, hw7⟩
    subst hw7
    cases rl <;> cases rr
    all_goals
      go_wp2_with fail
      refine (H9l.out _ hb6).mono ?_
      rintro e w8 ⟨rfl, hw8⟩
      subst hw8
      go_wp2
      go_ret
      exact ⟨rfl, bthen' hb2 hb6⟩
  · simp only [if_neg hkn] at H8r
    go_wp2_with fail
    refine (H8r.out _ _ hb4).mono ?_
    rintro e w5 ⟨rfl, hb5'⟩
    have hb5 := bthen hb4 hb5'
    clear hb5'
    go_wp2_with fail
    refine (H8.out _ _ hb5).mono ?_
    rintro e w6 ⟨rfl, hb6'⟩
    have hb6 := bthen hb5 hb6'
    clear hb6'
    go_wp2_with fail
    refine (H9.out _ hb6).mono ?_
    rintro e w7 ⟨rfl, hw7⟩
    subst hw7
    cases rl <;> cases rr
    all_goals
      go_wp2_with fail
      refine (H9l.out _ hb6).mono ?_
      rintro e w8 ⟨rfl, hw8⟩
      subst hw8
      go_wp2
      go_ret
      exact ⟨rfl, bthen' hb2 hb6⟩

set_option maxHeartbeats 2000000 in
theorem cut_out (self : ByteArray) (a : Option Addr) (cap : Nat) (ss : List ByteArray) (x : ByteArray) (k : Int) (w : World)
    (hs : StrsAt w a ss) (hn : ss.length ≤ maxLen) (hk : k < 0 ∨ (ss.length : Int) < k) :
    Calls Try.prog 3 #[.string self, .slice a ss.length cap, .string x, .int .i64 k] w fun e w' => e = .returned (.bool true) ∧ Below w.heap.size w w' := by
  have H5 := hide (bytes_cut_any self a cap ss x k w hs hn)
  have H6 := hide (big_any self a cap ss x ⟨#[]⟩ w hs hn)
  generalize ss.length = n at *
  clear hs
  unfold maxLen at hn
  by_cases hk' : k < 0
  · clear hk
    go_enter Try.func3, Try.ntmps3
    go_wp2_with fail
    refine H5.out.mono ?_
    rintro e w' ⟨⟨b, rfl⟩, rfl⟩
    clear H5
    cases b
    · go_wp2
      go_ret
      exact ⟨rfl, Below.refl _ _⟩
    go_wp2_with fail
    refine H6.out.mono ?_
    rintro e w' ⟨⟨b, rfl, hb⟩, rfl⟩
    clear H6 hb
    cases b
    rotate_left
    · go_wp2
      go_ret
      exact ⟨rfl, Below.refl _ _⟩
    go_wp2_with fail
    go_ret
    exact ⟨rfl, Below.refl _ _⟩
  · have hk2 : (n : Int) < k := by omega
    clear hk
    go_enter Try.func3, Try.ntmps3
    go_wp2_with fail
    refine H5.out.mono ?_
    rintro e w' ⟨⟨b, rfl⟩, rfl⟩
    clear H5
    cases b
    · go_wp2
      go_ret
      exact ⟨rfl, Below.refl _ _⟩
    go_wp2_with fail
    refine H6.out.mono ?_
    rintro e w' ⟨⟨b, rfl, hb⟩, rfl⟩
    clear H6 hb
    cases b
    rotate_left
    · go_wp2
      go_ret
      exact ⟨rfl, Below.refl _ _⟩
    go_wp2_with fail
    go_ret
    exact ⟨rfl, Below.refl _ _⟩

theorem cut_any (self : ByteArray) (a : Option Addr) (cap : Nat) (ss : List ByteArray) (x : ByteArray) (k : Int) (w : World)
    (hs : StrsAt w a ss) (hn : ss.length ≤ maxLen) (hz : ∀ s ∈ ss, s.size ≤ maxLen) (hnil : a = none → ss = [] ∧ cap = 0) :
    Calls Try.prog 3 #[.string self, .slice a ss.length cap, .string x, .int .i64 k] w fun e w' => e = .returned (.bool true) ∧ Below w.heap.size w w' := by
  cases a with
  | none =>
    obtain ⟨rfl, rfl⟩ := hnil rfl
    exact cut_nil self x k w
  | some ad =>
    by_cases hk : k < 0 ∨ (ss.length : Int) < k
    · exact cut_out self (some ad) cap ss x k w hs hn hk
    · obtain ⟨m, rfl⟩ := Int.eq_ofNat_of_zero_le (show 0 ≤ k by omega)
      exact cut_some self ad cap ss x m w hs hn hz (by omega)
end Go.Proofs.Qxb6617004a
