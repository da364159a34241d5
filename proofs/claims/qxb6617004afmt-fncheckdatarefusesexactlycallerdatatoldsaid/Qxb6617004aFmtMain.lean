import Derived.Test.Qxb6617004aFmtAll
import Derived.Deep.WholeRow
namespace Go.Proofs.Qxb6617004aFmt
open Go.ChangeShapes Go.WideShapes Go.ChangeAt Go.RowKit
open Go.Extern.Stop Go.Stop Go.Extern
set_option linter.unusedVariables false

theorem msg_all (mt fr : ByteArray) (t : Int) (a : Option Addr) (n c : Nat) : (msgCells mt fr t a n c).all (·.oneCell') = true := by kernel_rfl
theorem own4_ents {w : World} {g : Nat} {es : List EntV} (h : Own4 w g es) : EntsAt w (some ⟨g, 0, none⟩) es :=
  Or.inr ⟨g, 0, rfl, fun i hi => by rw [Nat.zero_add]; exact h.1 i hi⟩

/-- a whole struct into the block that was made last -/
theorem wpList_store_new {P : Program} {ops : Array Oper} {rest : List Oper} {o : Oper} {a : Act} {w : World} {Q : Exit → Act → World → Prop} (hgd : o.guard = none) (ty : TypeId) (x y : Operand) (ho : o.op = .store ty x y)
    (cells : Array Value) (hx : a.eval x = .pointer (some ⟨w.heap.size, 0, none⟩)) (hy : a.eval y = .agg cells) (t : TypeId) (old : Array Value) (hi : (P.info? ty).map (·.size) = some cells.size)
    (hold : old.size = cells.size) (h1 : cells.all (·.oneCell') = true)
    (h : wpList P ops Q rest (a.put o.dst undef) (w.alloc (.cells cells t))) : wpList P ops Q (o :: rest) a (w.alloc (.cells old t)) := by
  refine wpList_store_row hgd ty x y ho w.heap.size cells hx hy t old (heap_alloc_last w _) hi hold h1 ?_
  rw [World.setRow_alloc_new]
  exact h

set_option maxRecDepth 100000 in
set_option maxHeartbeats 4000000 in
theorem law_any (F : Interp) (id fr mt : ByteArray) (t : Int) (a : Option Addr) (cap : Nat) (es : List EntV) (w : World) (hF : F.answers w.tape) (hE : EntsAt w a es) (hn : es.length ≤ maxLen) :
    Calls Tryf.prog 3 #[.string id, .string fr, .int .u64 t, .string mt, .slice a es.length cap] w fun e w' => e = .returned (.bool true) ∧ Below w.heap.size w w' := by
  have H4 := hide (bytes_any id fr t mt a cap es w hE hn)
  have H5 := hide (big_any id fr mt a cap es w hE hn)
  have H6 := hide (to_any a cap es w hE)
  have H7 := hide (fun w1 (h : Below w.heap.size w w1) => carries_any a cap es w1 (hE.later h) hn)
  have HF := hide hF
  clear hE hF
  obtain ⟨n, hn'⟩ : ∃ n, n = es.length := ⟨_, rfl⟩
  rw [← hn'] at H4 H5 H6 H7 hn ⊢
  have HN := hide hn'
  clear hn'
  go_enter Tryf.func3, Tryf.ntmps3
  go_wp2_with fail
  refine H4.out.mono ?_
  rintro e w' ⟨⟨b, rfl⟩, rfl⟩
  clear H4
  cases b
  · go_wp2
    go_ret
    exact ⟨rfl, Below.refl _ _⟩
  go_wp2_with fail
  refine H5.out.mono ?_
  rintro e w' ⟨⟨b, rfl, hb⟩, rfl⟩
  clear H5
  cases b
  rotate_left
  · clear hb
    go_wp2
    go_ret
    exact ⟨rfl, Below.refl _ _⟩
  have hbig := hb rfl
  clear hb
  go_wp2_with fail
  refine (H6.out hbig).mono ?_
  rintro e w1 ⟨rfl, hO, hb1⟩
  have HE := hide (own4_ents hO)
  clear hO H6
  obtain ⟨m, hm⟩ : ∃ m, m = msgCells mt fr t (some ⟨w'.heap.size, 0, none⟩) n n := ⟨_, rfl⟩
  have HM := hide hm
  have HS : Hid (m.size = 17) := hm ▸ msg_size mt fr t (some ⟨w'.heap.size, 0, none⟩) n n
  have HA : Hid (m.all (·.oneCell') = true) := hm ▸ msg_all mt fr t (some ⟨w'.heap.size, 0, none⟩) n n
  have HB : Hid (∀ w, (Instr.build 35 #[(0, .string mt), (1, .string fr), (4, .int .u64 t), (7, .slice (some ⟨w'.heap.size, 0, none⟩) n n)]).run Tryf.prog w = .ok (.agg m) w) := by rw [hm]; exact build35 _ _ _ _ _ _
  clear hm
  have H8 : Hid (Calls Tryf.prog 8 #[.string id, .agg m] (w1.alloc (.cells m 35)) fun e w' => errRes (wanted mt es) e ∧ Below (w1.alloc (.cells m 35)).heap.size (w1.alloc (.cells m 35)) w') := by
    have hF1 : F.answers w1.tape := by rw [hb1.tape]; exact HF.out
    have h := refuse8 F id mt fr t w'.heap.size es (w1.alloc (.cells m 35)) (by exact hF1) (HE.out.later ((Below.refl _ _).alloc (Nat.le_refl _) _)) (by rw [← HN.out]; exact hbig)
    rw [← HN.out, ← HM.out] at h
    exact h
  have H9 : Hid (∀ w2, Below (w1.alloc (.cells m 35)).heap.size (w1.alloc (.cells m 35)) w2 → Calls Tryf.prog 9 #[.string id, .agg m] w2 fun e w' => e = .returned .nilIface ∧ Below w2.heap.size w2 w') := by
    intro w2 h2
    have h := accept9 id mt fr t w'.heap.size es w2 (EntsAt.later h2 (HE.out.later ((Below.refl _ _).alloc (Nat.le_refl _) _))) (by rw [← HN.out]; exact hbig)
    rw [← HN.out, ← HM.out] at h
    exact h
  have H7' := hide (H7.out (w1.alloc (.cells m 35)) (bthen hb1 ((Below.refl _ _).alloc (Nat.le_refl _) _)))
  clear H7 HE HF HN HM
  cases c : (mt.toList == [97, 112, 112, 101, 110, 100])
  · have hw : wanted mt es = false := by unfold wanted; rw [c]; rfl
    rw [hw] at H8
    clear hw H7'
    go_wp2_with (first | (refine wpList_build rfl 35 [(0, .tmp 27), (1, .tmp 28), (4, .tmp 29), (7, .tmp 31)] rfl [(0, .string mt), (1, .string fr), (4, .int .u64 t), (7, .slice (some ⟨w'.heap.size, 0, none⟩) n n)] rfl _ (HB.out _) ?_) | (refine wpList_store_new rfl 35 (.tmp 11) (.tmp 32) rfl m rfl rfl 35 _ (by rw [HS.out]; exact Tryf.size35) (by rw [HS.out]; rfl) HA.out ?_) | (refine wpList_load_row rfl 35 (.tmp 11) rfl w1.heap.size rfl 35 m (0, 0) _ (heap_alloc_last w1 _) Tryf.underlying35 rfl (by rw [HS.out]; exact Tryf.size35) ?_))
    refine H8.out.mono ?_
    rintro e w2 ⟨he, hb2⟩
    rcases he with ⟨hf, _⟩ | ⟨_, rfl⟩
    · cases hf
    have HG2 : Hid (w2.heap[w1.heap.size]? = some (.cells m 35 (0, 0))) := (hb2.block _ (by simp)).trans (heap_alloc_last w1 _)
    have H9' := hide (H9.out w2 hb2)
    have hbe := bthen (bthen hb1 ((Below.refl _ _).alloc (Nat.le_refl _) (.cells m 35))) hb2
    clear H8 H9 hb2
    go_wp2_with (refine wpList_load_row rfl 35 (.tmp 11) rfl w1.heap.size rfl 35 m (0, 0) _ HG2.out Tryf.underlying35 rfl (by rw [HS.out]; exact Tryf.size35) ?_)
    refine H9'.out.mono ?_
    rintro e w3 ⟨rfl, hb3⟩
    go_wp2
    go_ret
    exact ⟨rfl, bthen hbe hb3⟩
  · have hw : wanted mt es = carriesB es := by unfold wanted; rw [c]; rfl
    rw [hw] at H8
    clear hw
    generalize carriesB es = r at H8 H7'
    go_wp2_with (first | (refine wpList_build rfl 35 [(0, .tmp 27), (1, .tmp 28), (4, .tmp 29), (7, .tmp 31)] rfl [(0, .string mt), (1, .string fr), (4, .int .u64 t), (7, .slice (some ⟨w'.heap.size, 0, none⟩) n n)] rfl _ (HB.out _) ?_) | (refine wpList_store_new rfl 35 (.tmp 11) (.tmp 32) rfl m rfl rfl 35 _ (by rw [HS.out]; exact Tryf.size35) (by rw [HS.out]; rfl) HA.out ?_))
    refine H7'.out.mono ?_
    rintro e wx ⟨rfl, rfl⟩
    clear H7'
    cases r
    · go_wp2_with (refine wpList_load_row rfl 35 (.tmp 11) rfl w1.heap.size rfl 35 m (0, 0) _ (heap_alloc_last w1 _) Tryf.underlying35 rfl (by rw [HS.out]; exact Tryf.size35) ?_)
      refine H8.out.mono ?_
      rintro e w2 ⟨he, hb2⟩
      rcases he with ⟨hf, _⟩ | ⟨_, rfl⟩
      · cases hf
      have HG2 : Hid (w2.heap[w1.heap.size]? = some (.cells m 35 (0, 0))) := (hb2.block _ (by simp)).trans (heap_alloc_last w1 _)
      have H9' := hide (H9.out w2 hb2)
      have hbe := bthen (bthen hb1 ((Below.refl _ _).alloc (Nat.le_refl _) (.cells m 35))) hb2
      clear H8 H9 hb2
      go_wp2_with (refine wpList_load_row rfl 35 (.tmp 11) rfl w1.heap.size rfl 35 m (0, 0) _ HG2.out Tryf.underlying35 rfl (by rw [HS.out]; exact Tryf.size35) ?_)
      refine H9'.out.mono ?_
      rintro e w3 ⟨rfl, hb3⟩
      go_wp2
      go_ret
      exact ⟨rfl, bthen hbe hb3⟩
    · go_wp2_with (refine wpList_load_row rfl 35 (.tmp 11) rfl w1.heap.size rfl 35 m (0, 0) _ (heap_alloc_last w1 _) Tryf.underlying35 rfl (by rw [HS.out]; exact Tryf.size35) ?_)
      refine H8.out.mono ?_
      rintro e w2 ⟨he, hb2⟩
      rcases he with ⟨_, p, rfl⟩ | ⟨hf, _⟩
      rotate_left
      · cases hf
      have HG2 : Hid (w2.heap[w1.heap.size]? = some (.cells m 35 (0, 0))) := (hb2.block _ (by simp)).trans (heap_alloc_last w1 _)
      have H9' := hide (H9.out w2 hb2)
      have hbe := bthen (bthen hb1 ((Below.refl _ _).alloc (Nat.le_refl _) (.cells m 35))) hb2
      clear H8 H9 hb2
      go_wp2_with (refine wpList_load_row rfl 35 (.tmp 11) rfl w1.heap.size rfl 35 m (0, 0) _ HG2.out Tryf.underlying35 rfl (by rw [HS.out]; exact Tryf.size35) ?_)
      refine H9'.out.mono ?_
      rintro e w3 ⟨rfl, hb3⟩
      go_wp2
      go_ret
      exact ⟨rfl, bthen hbe hb3⟩
end Go.Proofs.Qxb6617004aFmt
