/-
  ZZview.
-/
import Derived.Test.Qxb6614540aViewE
import Derived.Great.BuildSlice
namespace Go.Proofs.Qxb6614540a.V
open Go.RowKit

theorem list20 {l : List Value} (h : l.length = 20) : ∃ m0 m1 m2 m3 m4 m5 m6 m7 m8 m9 m10 m11 m12 m13 m14 m15 m16 m17 m18 m19, l = [m0, m1, m2, m3, m4, m5, m6, m7, m8, m9, m10, m11, m12, m13, m14, m15, m16, m17, m18, m19] := by
  match l, h with
  | [m0, m1, m2, m3, m4, m5, m6, m7, m8, m9, m10, m11, m12, m13, m14, m15, m16, m17, m18, m19], _ => exact ⟨m0, m1, m2, m3, m4, m5, m6, m7, m8, m9, m10, m11, m12, m13, m14, m15, m16, m17, m18, m19, rfl⟩

theorem built89_lit (m0 m1 m2 m3 m4 m5 m6 m7 m8 m9 m10 m11 m12 m13 m14 m15 m16 m17 m18 m19 : Value) (held : Bool) : ∃ cs, Try.prog.built 89 [(0, .agg #[m0, m1, m2, m3, m4, m5, m6, m7, m8, m9, m10, m11, m12, m13, m14, m15, m16, m17, m18, m19]), (2, .bool held)] = some cs ∧ (cs.extract 0 20).toList = [m0, m1, m2, m3, m4, m5, m6, m7, m8, m9, m10, m11, m12, m13, m14, m15, m16, m17, m18, m19] :=
  ⟨(Try.prog.built 89 [(0, .agg #[m0, m1, m2, m3, m4, m5, m6, m7, m8, m9, m10, m11, m12, m13, m14, m15, m16, m17, m18, m19]), (2, .bool held)]).getD #[], by kernel_rfl, by kernel_rfl⟩

theorem built89 (M : Array Value) (hM : M.size = 20) (held : Bool) : ∃ cs, Try.prog.built 89 [(0, .agg M), (2, .bool held)] = some cs ∧ (cs.extract 0 20).toList = M.toList := by
  obtain ⟨l⟩ := M
  obtain ⟨m0, m1, m2, m3, m4, m5, m6, m7, m8, m9, m10, m11, m12, m13, m14, m15, m16, m17, m18, m19, rfl⟩ := list20 (l := l) (by simpa using hM)
  exact built89_lit m0 m1 m2 m3 m4 m5 m6 m7 m8 m9 m10 m11 m12 m13 m14 m15 m16 m17 m18 m19 held

theorem ViewEnts.move {O O' Z : Nat} {w4 w5 : World} {ao : Option Addr} {es : List En} (h : ViewEnts O Z w4 ao es) (hO : O' ≤ O) (hk : ∀ b, O ≤ b → b < w4.heap.size → w5.heap[b]? = w4.heap[b]?) (hkZ : ∀ b, b < Z → w5.heap[b]? = w4.heap[b]?) (hsz : w4.heap.size ≤ w5.heap.size) : ViewEnts O' Z w5 ao es := by
  have newof : ∀ b, New O w4 b → New O' w5 b := fun b hb => ⟨Nat.le_trans hO hb.ge, Nat.lt_of_lt_of_le hb.lt hsz, fun j => (World.frozen?_of_block (w := w4) (a := ⟨b, j, none⟩) (hk b hb.ge hb.lt)).trans (hb.fz j)⟩
  rcases h with h | ⟨g, rfl, hg, hE⟩
  · exact .inl h
  · exact .inr ⟨g, rfl, newof g hg, fun j e he => (hE j e he).move (hk g hg.ge hg.lt) (fun b hb => hk b hb.1.ge hb.1.lt) (fun b hb => ⟨newof b hb.1, hb.2⟩) hkZ (fun _ h => h)⟩

set_option maxRecDepth 100000 in
set_option maxHeartbeats 1000000 in
theorem f21_any (Z : Nat) (M : Array Value) (held : Bool) (ao : Option Addr) (cap : Nat) (es : List En) (w : World) (hM : M.size = 20) (hM1 : M.all (·.oneCell') = true) (h11 : M[11]? = some (.slice ao es.length cap))
    (hm : EntsAt w (fun b => b < Z) (fun b => b < Z) ao es) (hZ : Z ≤ w.heap.size) (hf : Fits es) :
    Calls Try.prog 21 #[.agg M, .bool held] w fun e w' => ViewRes Z w M es e w' := by
  obtain ⟨cs, hcs, hcs1⟩ := built89 M hM held
  have HC := hide hcs
  have HC1 := hide hcs1
  have HM := hide hM
  have HM1 := hide hM1
  have H11 := hide h11
  clear hcs hcs1 hM hM1 h11
  go_enter Try.func21, Try.ntmps21
  go_wp2_with (first | (refine wpList_load_row rfl 49 (.tmp 2) rfl w.heap.size rfl 49 M (0, 0) _ ?r1 Try.underlying49 rfl ?r2 ?_) | (refine wpList_buildTo rfl 89 _ rfl (some 8) rfl cs ?hb ?_))
  case r1 => exact heap_alloc2_old _ _ _
  case r2 => rw [HM.out]; exact size49
  case hb => exact HC.out
  obtain ⟨W, hW⟩ : ∃ W, W = ((w.alloc (.cells M 49)).alloc (.cells zero49 49)).alloc (.cells cs 89) := ⟨_, rfl⟩
  have hBW : Below w.heap.size w W := by rw [hW]; exact (((Below.refl _ _).alloc (Nat.le_refl _) _).alloc (by simp) _).alloc (by simp; omega) _
  have hWs : W.heap.size = w.heap.size + 3 := by rw [hW]; simp
  have hW1 : W.heap[w.heap.size + 1]? = some (.cells zero49 49 (0, 0)) := by rw [hW, Below.heap_alloc _ _ _ (by simp)]; exact heap_alloc2_new _ _ _
  have hW2 : W.heap[w.heap.size + 2]? = some (.cells cs 89 (0, 0)) := by
    have := heap_alloc_new ((w.alloc (.cells M 49)).alloc (.cells zero49 49)) (.cells cs 89)
    rw [hW]
    simpa using this
  have hR : W.rangeAt (w.heap.size + 1 + 1) 0 M.toList := by
    have := World.rangeAt_of_block hW2 0 20
    rwa [HC1.out] at this
  have hm' : EntsAt W (fun b => b < Z) (fun b => b < Z) ao es := hm.move (fun b hb => hBW.block b (Nat.lt_of_lt_of_le hb hZ)) (fun _ h => h) (fun b hb => hBW.block b (Nat.lt_of_lt_of_le hb hZ)) (fun _ h => h)
  have HW := hide hW
  have HS := hide hWs
  clear hW hWs
  rw [show (((w.alloc (.cells M 49)).alloc (.cells #[.int .i64 0, .int .i64 0, .int .u8 0, .int .u8 0, .int .u64 0, .int .u64 0, .int .u64 0, .int .u64 0, .int .u64 0, .int .u64 0, .int .u64 0, .slice none 0 0,
    .int .u64 0, .bool false, .int .u64 0, .int .u64 0, .int .u64 0, .int .u64 0, .int .u64 0, .int .u64 0] 49)).alloc (.cells cs 89)) = W from HW.out.symm]
  refine (f31_any Z M (w.heap.size + 1 + 1) ao cap es W (by rw [HS.out]; omega) hR HM.out HM1.out H11.out hm' (by rw [HS.out]; omega) hf).mono ?_
  rintro e w4 ⟨ao2, cap2, rfl, hN, hV, hB4⟩
  have hMs : (M.setIfInBounds 11 (.slice ao2 es.length cap2)).size = 20 := by rw [Array.size_setIfInBounds]; exact HM.out
  have HA : Hid ((M.setIfInBounds 11 (.slice ao2 es.length cap2)).all (·.oneCell') = true) := all_set HM1.out rfl
  obtain ⟨M2, hM2e⟩ : ∃ X, X = M.setIfInBounds 11 (.slice ao2 es.length cap2) := ⟨_, rfl⟩
  rw [← hM2e] at hMs HA ⊢
  have HMs := hide hMs
  have HE2 := hide hM2e
  have hz4 := hide ((hB4.block (w.heap.size + 1) (by rw [HS.out]; omega)).trans hW1)
  have HV := hide hV
  have HNN := hide hN
  have hs4 : w.heap.size + 3 ≤ w4.heap.size := by have := hB4.size; rw [HS.out] at this; exact this
  have hB4' : Below w.heap.size w w4 := hBW.trans (hB4.mono hBW.size)
  clear hM2e hMs hW1 hW2 hR hm' hV hN
  go_wp2_with (refine wpList_store_abs rfl 49 (.tmp 4) (.tmp 11) rfl (w.heap.size + 1) M2 rfl rfl 49 zero49 ?r3 ?r4 ?r5 ?r6 ?_)
  case r3 => exact hz4.out
  case r4 => rw [HMs.out]; exact size49
  case r5 => rw [HMs.out]; rfl
  case r6 => exact HA.out
  intro w5 hb5 hg5
  have hB5 : Below w.heap.size w w5 := hB4'.grown hg5 (by omega) (fun b hb => by cases hb; omega)
  have hV5 : ViewEnts w.heap.size Z w5 ao2 (es.map viewEn) := HV.out.move (by rw [HS.out]; omega) (fun b h1 h2 => hg5.block b h2 (by rw [HS.out] at h1; simp; omega)) (fun b hb => hg5.block b (by omega) (by simp; omega)) hg5.size
  have HB5 := hide hb5
  have hVN := hide hV5
  clear hb5 hg5 hV5
  go_wp2_with fail
  refine bodyPost_ret (v := .agg M2) (results_cell_row Try.results21 _ _ (w.heap.size + 1) 49 M2 (0, 0) _ rfl HB5.out Try.underlying49 rfl (by rw [HMs.out]; exact size49)) rfl ⟨ao2, cap2, ?_, HNN.out, hVN.out, hB5⟩
  rw [HE2.out]
end Go.Proofs.Qxb6614540a.V
