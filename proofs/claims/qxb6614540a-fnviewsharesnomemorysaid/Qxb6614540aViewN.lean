/-
  The law FnViewSharesNoMemory, walked.
-/
import Derived.Test.Qxb6614540aViewM
namespace Go.Proofs.Qxb6614540a.V
open Go.RowKit

set_option maxRecDepth 100000 in
set_option maxHeartbeats 1000000 in
theorem law5 (h : Hd) (M : Array Value) (nil : Bool) (es : List En) (held : Bool) (w : World) (hm : IsMsg w h M nil es) :
    Calls Try.prog 5 #[.agg M, .bool held] w fun e w' => e = .returned (.bool true) ∧ Below w.heap.size w w' := by
  have HS := hide hm.size
  have X1 := Boxed.start w M
  go_enter Try.func5, Try.ntmps5
  go_wp2_with (refine wpList_load_row rfl 42 (.tmp 2) rfl w.heap.size rfl 42 M (0, 0) _ X1.blk Try.underlying42 rfl (by rw [HS.out]; exact size42) ?_)
  refine (c18 (hm.below X1.below) held).mono ?_
  rintro e w2 ⟨⟨b0, rfl⟩, hb2⟩
  have X2 := X1.step hb2
  clear X1 hb2
  cases b0
  · go_wp2_with fail
    go_ret
    exact ⟨rfl, X2.below⟩
  go_wp2_with (refine wpList_load_row rfl 42 (.tmp 2) rfl w.heap.size rfl 42 M (0, 0) _ X2.blk Try.underlying42 rfl (by rw [HS.out]; exact size42) ?_)
  refine (c19 (hm.below X2.below)).mono ?_
  rintro e w3 ⟨⟨b1, rfl, hf⟩, hb3⟩
  have X3 := X2.step hb3
  clear X2 hb3
  cases b1
  case true =>
    go_wp2_with fail
    go_ret
    exact ⟨rfl, X3.below⟩
  replace hf := hf rfl
  -- the copy
  go_wp2_with (refine wpList_load_row rfl 42 (.tmp 2) rfl w.heap.size rfl 42 M (0, 0) _ X3.blk Try.underlying42 rfl (by rw [HS.out]; exact size42) ?_)
  refine (c20 (hm.below X3.below) hf).mono ?_
  rintro e w4 ⟨M1, rfl, hm1, hb4⟩
  have X4 := X3.step hb4
  have H1 := hide hm1.size
  have A1 := hide hm1.one
  clear X3 hb4
  go_wp2_with (refine wpList_store_abs rfl 49 (.tmp 5) (.tmp 19) rfl w4.heap.size M1 rfl rfl 49 zero49 (heap_alloc_new _ _) (by rw [H1.out]; exact size49) (by rw [H1.out]; rfl) A1.out ?_)
  intro w5 hk5 hg5
  have hb5 := filled hg5
  have l5 : w4.heap.size < w5.heap.size := by have := hg5.size; simp at this; omega
  have X5 := X4.step hb5
  have hm5 := hm1.below hb5
  have K5 := hide hk5
  clear X4 hg5 hb5 hm1 hk5
  -- the view
  go_wp2_with (refine wpList_load_row rfl 49 (.tmp 5) rfl w4.heap.size rfl 49 M1 (0, 0) _ K5.out Try.underlying49 rfl (by rw [H1.out]; exact size49) ?_)
  refine (c21 hm5 hf held).mono ?_
  rintro e w6 ⟨ao2, cap2, rfl, hm2, hV6, hb6⟩
  obtain ⟨M2, hM2⟩ : ∃ M2, M2 = msg h (.slice ao2 es.length cap2) := ⟨_, rfl⟩
  rw [← hM2] at hm2 ⊢
  have e11 : Hid (M2[11]? = some (.slice ao2 es.length cap2)) := hide (by rw [hM2]; rfl)
  have hb6' := hb6.size
  have Y6 : Hid (Below w5.heap.size w5 w6) := hide hb6
  have X6 := X5.step hb6
  have H2 := hide hm2.size
  have A2 := hide hm2.one
  have X5 := hide X5
  clear hb6 hM2
  go_wp2_with (refine wpList_store_abs rfl 49 (.tmp 6) (.tmp 22) rfl w6.heap.size M2 rfl rfl 49 zero49 (heap_alloc_new _ _) (by rw [H2.out]; exact size49) (by rw [H2.out]; rfl) A2.out ?_)
  intro w7 hk7 hg7
  have hb7 := filled hg7
  have l7 : w6.heap.size < w7.heap.size := by have := hg7.size; simp at this; omega
  have X7 := X6.step hb7
  have hm7 := hm2.below hb7
  have Y7 : Hid (Below w5.heap.size w5 w7) := hide (Y6.out.trans (hb7.mono hb6'))
  have K7 := hide hk7
  have B7 := hide hb7
  clear X6 hg7 hb7 hm2 hk7 Y6
  -- it carries the message
  go_wp2_with (first | (refine wpList_load_row rfl 49 (.tmp 6) rfl w6.heap.size rfl 49 M2 (0, 0) _ K7.out Try.underlying49 rfl (by rw [H2.out]; exact size49) ?_) | (refine wpList_load_row rfl 42 (.tmp 2) rfl w.heap.size rfl 42 M (0, 0) _ X7.blk Try.underlying42 rfl (by rw [HS.out]; exact size42) ?_))
  refine (c22 hm7 (hm.below X7.below) hf).mono ?_
  rintro e w8 ⟨rfl, hb8⟩
  have Y8 : Below w5.heap.size w5 w8 := Y7.out.trans (hb8.mono Y7.out.size)
  have K8 : w8.heap[w6.heap.size]? = some (.cells M2 49 (0, 0)) := (hb8.block w6.heap.size l7).trans K7.out
  have l8 : w6.heap.size < w8.heap.size := Nat.lt_of_lt_of_le l7 hb8.size
  have hin : Hid (∃ g S, es ≠ [] → ao2 = some ⟨g, 0, none⟩ ∧ Mut w8 w5.heap.size w6.heap.size g es.length S) := by
    by_cases hes : es = []
    · exact ⟨0, fun _ => ⟨none, 0, 0⟩, fun h => absurd hes h⟩
    · obtain ⟨g, S, h1, h2⟩ := mut_of hV6 rfl hf (B7.out.trans (hb8.mono (Nat.le_of_lt l7))) l8 hes
      exact ⟨g, S, fun _ => ⟨h1, h2⟩⟩
  have c11 : w8.cell? ⟨w6.heap.size, 11, none⟩ = some (.slice ao2 es.length cap2) := (cell_of_row w8 w6.heap.size 11 M2 49 _ K8).trans e11.out
  have z11 : w6.heap.size ≥ w5.heap.size := hb6'
  clear hb8 Y7 K8 K7 hm7 B7 hV6 X7 H2 A2 e11
  obtain ⟨g, S, hgS⟩ := hin.out
  clear hin
  have hn := hf.n
  obtain ⟨n, hnn⟩ : ∃ n, n = es.length := ⟨_, rfl⟩
  rw [← hnn] at hgS c11 hn
  have HG : Hid (n ≠ 0 → ao2 = some ⟨g, 0, none⟩ ∧ Mut w8 w5.heap.size w6.heap.size g n S) := hide fun h0 => hgS (by rintro rfl; exact h0 (by rw [hnn]; rfl))
  clear hgS hnn
  go_wp2_with fail
  go_loopw [8] (fun i wr => ∃ k : Nat, k ≤ n ∧ i = .int .i64 k ∧ wr.cell? ⟨w6.heap.size, 11, none⟩ = some (.slice ao2 n cap2) ∧ Below w5.heap.size w5 wr ∧ Hid (n ≠ 0 → Mut wr w5.heap.size w6.heap.size g n S)) (fun i _ => n - (intOf i).toNat)
  case atStart => exact ⟨0, Nat.zero_le _, rfl, c11, Y8, hide fun h0 => (HG.out h0).2⟩
  case round =>
    rename World => wa
    obtain ⟨k, hk, rfl, m1, hbel, HM⟩ := hrel
    by_cases hlt : k < n
    · have h0 : n ≠ 0 := by omega
      have mu := HM.out h0
      obtain ⟨ix, cI⟩ := mu.idx k hlt
      have cS := mu.sl k hlt
      have fI := mu.fz (k * 5)
      have hS := mu.len k hlt
      have M1 := hide mu
      obtain rfl := (HG.out h0).1
      have hlt' : (k : Int) < (n : Int) := by omega
      clear mu HM
      go_wp2_with fail
      go_region
      obtain ⟨v, hv⟩ : ∃ v, v = IntKind.u64.wrap (ix + 1) := ⟨_, rfl⟩
      rw [← hv]
      obtain ⟨wb, hwb⟩ : ∃ wb, wb = (wa.setCell ⟨g, k * 5, none⟩ (.int .u64 v)).drew := ⟨_, rfl⟩
      rw [← hwb]
      have gO := M1.out.ge
      have gF := M1.out.lt
      have mb : Mut wb w5.heap.size w6.heap.size g n S := hwb ▸ (M1.out.index k v).drew
      have m1b : wb.cell? ⟨w6.heap.size, 11, none⟩ = some (.slice (some ⟨g, 0, none⟩) n cap2) := by
        rw [hwb]; exact (World.cell?_setCell_other _ _ _ _ (by simp <;> omega)).trans m1
      have hbb : Below w5.heap.size w5 wb := by rw [hwb]; exact (hbel.setCell gO _).drew
      clear hwb hv m1 hbel M1 cI cS fI hS
      have cS := mb.sl k hlt
      have hS := mb.len k hlt
      rcases hSk : S k with ⟨ca, cl, cc⟩
      rw [hSk] at cS hS
      have HSk := hide hSk
      clear hSk
      have MB := hide mb
      clear mb
      go_wp2_with fail
      go_loopw [10] (fun i wr => ∃ j : Nat, j ≤ cl ∧ i = .int .i64 j ∧ wr.cell? ⟨w6.heap.size, 11, none⟩ = some (.slice (some ⟨g, 0, none⟩) n cap2) ∧ Below w5.heap.size w5 wr ∧ Hid (Mut wr w5.heap.size w6.heap.size g n S)) (fun i _ => cl - (intOf i).toNat)
      case atStart => exact ⟨0, Nat.zero_le _, rfl, m1b, hbb, MB⟩
      case round =>
        obtain ⟨j, hj, rfl, m2, hb2, HM2⟩ := hrel
        by_cases hjl : j < cl
        · have hjl' : (j : Int) < (cl : Int) := by omega
          have mu := HM2.out
          rcases mu.byt k hlt with h0 | ⟨b, off, ha, bO, bF, bg, hby⟩
          · rw [HSk.out] at h0; simp at h0; omega
          rw [HSk.out] at ha hby
          simp only at ha
          subst ha
          obtain ⟨⟨y, hy⟩, fy⟩ := hby j hjl
          clear hby mu
          go_wp2_with fail
          refine ⟨⟨j + 1, by omega, by simp, (World.cell?_setCell_other _ _ _ _ (by simp <;> omega)).trans m2, hb2.setCell bO _, hide (HM2.out.byte _ _ _ bg)⟩, ?_⟩
          simp [intOf]
          omega
        · have hjl' : (cl : Int) ≤ (j : Int) := by omega
          go_wp2_with fail
          refine ⟨⟨k + 1, by omega, by simp, m2, hb2, hide fun _ => HM2.out⟩, ?_⟩
          simp [intOf]
          omega
    · have hlt' : (n : Int) ≤ (k : Int) := by omega
      have K9 := hide ((hbel.block w4.heap.size l5).trans K5.out)
      have hm9 := hm5.below hbel
      have hb9 := hide hbel
      clear hbel
      go_wp2_with (refine wpList_load_row rfl 49 (.tmp 5) rfl w4.heap.size rfl 49 M1 (0, 0) _ K9.out Try.underlying49 rfl (by rw [H1.out]; exact size49) ?_)
      refine (c21 hm9 hf held).mono ?_
      rintro e w10 ⟨ao3, cap3, rfl, hm3, _, hb10⟩
      obtain ⟨M3, hM3⟩ : ∃ M3, M3 = msg h (.slice ao3 es.length cap3) := ⟨_, rfl⟩
      rw [← hM3] at hm3 ⊢
      have X9 := X5.out.step hb9.out
      have X10 := X9.step hb10
      have H3 := hide hm3.size
      have A3 := hide hm3.one
      clear X9 hb10 hM3
      go_wp2_with (refine wpList_store_abs rfl 49 (.tmp 11) (.tmp 67) rfl w10.heap.size M3 rfl rfl 49 zero49 (heap_alloc_new _ _) (by rw [H3.out]; exact size49) (by rw [H3.out]; rfl) A3.out ?_)
      intro w11 hk11 hg11
      have hb11 := filled hg11
      have X11 := X10.step hb11
      have hm11 := hm3.below hb11
      have K11 := hide hk11
      clear X10 hg11 hb11 hm3 hk11
      go_wp2_with (first | (refine wpList_load_row_yes rfl 49 (.tmp 11) rfl w10.heap.size rfl 49 M3 (0, 0) _ K11.out Try.underlying49 rfl (by rw [H3.out]; exact size49) ?_) | (refine wpList_load_row_yes rfl 42 (.tmp 2) rfl w.heap.size rfl 42 M (0, 0) _ X11.blk Try.underlying42 rfl (by rw [HS.out]; exact size42) ?_))
      refine (c22 hm11 (hm.below X11.below) hf).mono ?_
      rintro e w12 ⟨rfl, hb12⟩
      have X12 := X11.step hb12
      clear X11 hb12
      go_wp2_with fail
      go_ret
      exact ⟨rfl, X12.below⟩
end Go.Proofs.Qxb6614540a.V
