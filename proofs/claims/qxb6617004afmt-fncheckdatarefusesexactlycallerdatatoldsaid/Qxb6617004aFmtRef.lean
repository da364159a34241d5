import Derived.Test.Qxb6617004aFmtApp
namespace Go.Proofs.Qxb6617004aFmt
open Go.ChangeShapes Go.WideShapes Go.ChangeAt Go.RowKit
open Go.Extern.Stop Go.Stop Go.Extern
set_option linter.unusedVariables false

/-- an error comes back just where an entry carries data -/
def refRes (es : List EntV) (e : Ending) : Prop := (carriesB es = true ∧ ∃ p, e = .returned (.iface 76 (.pointer (some p)))) ∨ (carriesB es = false ∧ e = .returned .nilIface)

set_option maxRecDepth 100000 in
set_option maxHeartbeats 4000000 in
theorem check_refuse (F : Interp) (N : Nat) (id mt fr : ByteArray) (t : Int) (G : Nat) (es : List EntV) (w : World) (hF : F.answers w.tape) (hN : NodeAt w N id 10) (hE : EntsAt w (some ⟨G, 0, none⟩) es) (hm : (mt.toList == [97, 112, 112, 101, 110, 100]) = true) (hn : es.length ≤ 65536) :
    Calls Tryf.prog 12 #[.pointer (some ⟨N, 0, none⟩), .agg (msgCells mt fr t (some ⟨G, 0, none⟩) es.length es.length)] w fun e w' => refRes es e ∧ Below w.heap.size w w' := by
  have hb0 : ∀ o, Below w.heap.size w (w.alloc o) := fun o => (Below.refl _ _).alloc (Nat.le_refl _) o
  have HN0 := hide (fun o => hN.later (hb0 o))
  have HE0 := hide (fun o => hE.later (hb0 o))
  have HB0 := hide hb0
  have HF := hide hF
  clear hb0 hF
  obtain ⟨h0, h37, h38⟩ := hN
  obtain ⟨n, hn'⟩ : ∃ n, n = es.length := ⟨_, rfl⟩
  rw [← hn'] at hn ⊢
  have HL := hide hn'
  clear hn' hE
  have hlt : N < w.heap.size := World.block_lt_of_cell? w ⟨N, 0, none⟩ h0
  have m0 := msg0 mt fr t (some ⟨G, 0, none⟩) n n
  have m7 := msg7 mt fr t (some ⟨G, 0, none⟩) n n
  have hf := neq_func
  have HM1 : Hid ((w.alloc (.cells (msgCells mt fr t (some ⟨G, 0, none⟩) n n) 35)).cell? ⟨w.heap.size, 1, none⟩ = some (.string fr)) := (World.cell?_alloc_at _ _ _ _ rfl).trans (msg1 mt fr t (some ⟨G, 0, none⟩) n n)
  have HM4 : Hid ((w.alloc (.cells (msgCells mt fr t (some ⟨G, 0, none⟩) n n) 35)).cell? ⟨w.heap.size, 4, none⟩ = some (.int .u64 t)) := (World.cell?_alloc_at _ _ _ _ rfl).trans (msg4 mt fr t (some ⟨G, 0, none⟩) n n)
  go_enter Tryf.func12, Tryf.ntmps12
  go_wp2
  go_loopw [25] (fun i wr => ∃ k : Nat, k ≤ n ∧ i = .int .i64 k ∧ Hid (carriesB (es.take k) = false) ∧ Below (w.alloc (.cells (msgCells mt fr t (some ⟨G, 0, none⟩) n n) 35)).heap.size (w.alloc (.cells (msgCells mt fr t (some ⟨G, 0, none⟩) n n) 35)) wr) (fun i _ => n - (intOf i).toNat)
  case atStart => exact ⟨0, Nat.zero_le _, rfl, rfl, Below.refl _ _⟩
  case round =>
    obtain ⟨k, hk, rfl, HT, hb⟩ := hrel
    by_cases hlt : k < n
    · have hlt' : k < es.length := by rw [← HL.out]; exact hlt
      obtain ⟨b, off, hG, e0, e1, e2, e3⟩ := ((HE0.out _).later hb).get hlt'
      simp only [Option.some.injEq, Addr.mk.injEq, and_true] at hG
      obtain ⟨rfl, rfl⟩ := hG
      obtain ⟨v, hv⟩ : ∃ v, es[k] = v := ⟨_, rfl⟩
      rw [hv] at e0 e1 e2 e3
      have HY := hide hv
      clear hv
      obtain ⟨i0, t0, ty, da, dl, dc⟩ := v
      simp only [Nat.zero_add] at e0 e1 e2 e3
      obtain ⟨g0, g37, g38⟩ := (HN0.out _).later hb
      have hsz : N < wr.heap.size := World.block_lt_of_cell? wr ⟨N, 0, none⟩ g0
      have gM1 := cell_later hb HM1.out
      have gM4 := cell_later hb HM4.out
      have hszM : w.heap.size < wr.heap.size := World.block_lt_of_cell? wr ⟨w.heap.size, 1, none⟩ gM1
      have hFr : Hid (F.answers wr.tape) := by
        show F.answers wr.tape
        rw [hb.tape]; exact HF.out
      clear h0 h37 h38 m0 m7 hf
      by_cases c1 : ty.toList = []
      · by_cases c2 : 0 < dl
        · have c2' : ((dl : Int) == 0) = false := by rw [beq_eq_false_iff_ne]; omega
          have HC : Hid (carriesB es = true) := carriesB_at hlt' HY.out (carries_yes c1 c2)
          go_wp2
          go_region_held3 (fun w' => w'.cell? ⟨N, 37, none⟩ = some (.func (.func 10) #[] #[]) ∧ w'.cell? ⟨wr.heap.size, 3, none⟩ = some (.slice da dl dc)) (simp [go_sem, World.cell?_alloc_past, *]) ((go_at_call 10; refine (refuse_any _ _).mono ?_; rintro e w' ⟨rfl, rfl⟩))
          go_wp2
          have s1 : N < wr.heap.size + 1 := by omega
          have s2 : N < wr.heap.size + 1 + 1 := by omega
          have s3 : w.heap.size < wr.heap.size + 1 := by omega
          have s4 : w.heap.size < wr.heap.size + 1 + 1 := by omega
          have HErr : Hid (Calls Tryf.prog 14 #[.string fmtText, .slice (some ⟨wr.heap.size + 1 + 1, 0, none⟩) 5 5] (((wr.alloc (.cells #[.int .u64 i0, .int .u64 t0, .string ty, .slice da dl dc] 44)).alloc (.cells #[.string refText] 71)).alloc (.cells #[.iface 9 (.string id), .iface 22 (.int .u64 i0), .iface 9 (.string fr), .iface 22 (.int .u64 t), .iface 69 (.pointer (some ⟨wr.heap.size + 1, 0, none⟩))] 20)).drew.drew
              fun e w' => (∃ p, e = .returned (.iface 76 (.pointer (some p)))) ∧ (w'.cell? ⟨N, 0, none⟩ = some (.string id) ∧ w'.cell? ⟨wr.heap.size, 0, none⟩ = some (.int .u64 i0) ∧ w'.cell? ⟨w.heap.size, 1, none⟩ = some (.string fr) ∧ w'.cell? ⟨w.heap.size, 4, none⟩ = some (.int .u64 t) ∧ w'.cell? ⟨wr.heap.size + 1, 0, none⟩ = some (.string refText)) ∧ Below wr.heap.size wr w') := by
            refine (errorf_any F (wr.heap.size + 1 + 1) id fr i0 t ⟨wr.heap.size + 1, 0, none⟩ refText _ (by exact hFr.out) ?_ ?_ ?_ ?_ ?_ ?_).mono ?_
            · simp [go_sem]
            · simp [go_sem]
            · simp [go_sem]
            · simp [go_sem]
            · simp [go_sem]
            · simp [go_sem]
            · rintro e w' ⟨he, hbe⟩
              refine ⟨he, ⟨cell_later hbe ?_, cell_later hbe ?_, cell_later hbe ?_, cell_later hbe ?_, cell_later hbe ?_⟩, ?_⟩
              · simp [go_sem, World.cell?_alloc_past, s1, s2, hsz, g0]
              · simp [go_sem]
              · simp [go_sem, World.cell?_alloc_past, s3, s4, hszM, gM1]
              · simp [go_sem, World.cell?_alloc_past, s3, s4, hszM, gM4]
              · simp [go_sem]
              · exact bthen (bthen (bthen (bthen ((Below.refl _ _).alloc (Nat.le_refl _) _) ((Below.refl _ _).alloc (Nat.le_refl _) _)) ((Below.refl _ _).alloc (Nat.le_refl _) _)) ((Below.refl _ _).drew.drew)) hbe
          go_region_held3 (fun w' => w'.cell? ⟨N, 0, none⟩ = some (.string id) ∧ w'.cell? ⟨wr.heap.size, 0, none⟩ = some (.int .u64 i0) ∧ w'.cell? ⟨w.heap.size, 1, none⟩ = some (.string fr) ∧ w'.cell? ⟨w.heap.size, 4, none⟩ = some (.int .u64 t) ∧ w'.cell? ⟨wr.heap.size + 1, 0, none⟩ = some (.string refText)) (simp [go_sem, World.cell?_alloc_past, *])
            ((go_at_call 14; refine HErr.out.mono ?_; rintro e w' ⟨⟨p, rfl⟩, ⟨k0, k1, k2, k3, k4⟩, hbe⟩))
          go_wp2
          go_ret
          exact ⟨Or.inl ⟨HC.out, _, rfl⟩, bthen (bthen (HB0.out _) hb) hbe⟩
        · go_wp2
          go_roundw
          case rel => exact ⟨k + 1, by omega, by go_num, by rw [carriesB_snoc es k hlt' HY.out, HT.out]; exact carries_no2 c2, hb.alloc hb.size _⟩
          case measure => simp [intOf]; omega
      · go_wp2
        go_roundw
        case rel => exact ⟨k + 1, by omega, by go_num, by rw [carriesB_snoc es k hlt' HY.out, HT.out]; exact carries_no1 c1, hb.alloc hb.size _⟩
        case measure => simp [intOf]; omega
    · have HC : Hid (carriesB es = false) := by
        have h := HT.out
        rwa [List.take_of_length_le (by rw [← HL.out]; omega)] at h
      go_wp2
      go_ret
      exact ⟨Or.inr ⟨HC.out, rfl⟩, bthen (HB0.out _) hb⟩
end Go.Proofs.Qxb6617004aFmt
