/-
  The law FnViewIsIdempotent, walked.
-/
import Derived.Test.Qxb6614540aViewI
namespace Go.Proofs.Qxb6614540a.V
open Go.RowKit

theorem size42 : (Try.prog.info? 42).map (·.size) = some 20 := by kernel_rfl

/-- The argument's box lies whole; nothing that was there has turned. -/
structure Boxed (w : World) (M : Array Value) (x : World) : Prop where
  below : Below w.heap.size w x
  blk : x.heap[w.heap.size]? = some (.cells M 42 (0, 0))
  lt : w.heap.size < x.heap.size

theorem Boxed.start (w : World) (M : Array Value) : Boxed w M (w.alloc (.cells M 42)) := ⟨one_more _ _, heap_alloc_new _ _, by simp⟩
theorem Boxed.step {w x y : World} {M : Array Value} (h : Boxed w M x) (hb : Below x.heap.size x y) : Boxed w M y :=
  ⟨h.below.trans (hb.mono h.below.size), (hb.block _ h.lt).trans h.blk, Nat.lt_of_lt_of_le h.lt hb.size⟩
/-- A variable is made and filled. -/
theorem filled {x y : World} {o : Obj} (hg : (x.alloc o).grownBy y (some x.heap.size)) : Below x.heap.size x y :=
  ((Below.refl _ _).alloc (Nat.le_refl _) _).grown hg (by simp) (fun k hk => by cases hk; exact Nat.le_refl _)

/-- 'wpList_load_row' where the guard says yes. -/
theorem wpList_load_row_yes {P : Program} {ops : Array Oper} {rest : List Oper} {o : Oper} {a : Act} {w : World} {Q : Exit → Act → World → Prop} (hw : Region.wanted o (yielded ops a.tmps) = true) (ty : TypeId) (x : Operand) (ho : o.op = .load ty x)
    (g : Nat) (hx : a.eval x = .pointer (some ⟨g, 0, none⟩)) (t : TypeId) (cs : Array Value) (fr : Nat × Nat) (d : TypeDesc) (hg : w.heap[g]? = some (.cells cs t fr))
    (hu : P.underlying ty = some d) (hd : (match d with | .struct _ | .array _ _ => true | _ => false) = true) (hi : (P.info? ty).map (·.size) = some cs.size)
    (h : wpList P ops Q rest (a.put o.dst (.agg cs)) w) : wpList P ops Q (o :: rest) a w := by
  unfold wpList
  rw [if_pos hw]
  exact .inl (wp_load_row ty x ho g hx t cs fr d hg hu hd hi h)

set_option maxRecDepth 100000 in
set_option maxHeartbeats 1000000 in
theorem law6 (h : Hd) (M : Array Value) (nil : Bool) (es : List En) (held again : Bool) (w : World) (hm : IsMsg w h M nil es) :
    Calls Try.prog 6 #[.agg M, .bool held, .bool again] w fun e w' => e = .returned (.bool true) ∧ Below w.heap.size w w' := by
  have HS := hide hm.size
  have X1 := Boxed.start w M
  go_enter Try.func6, Try.ntmps6
  go_wp2_with (refine wpList_load_row rfl 42 (.tmp 3) rfl w.heap.size rfl 42 M (0, 0) _ X1.blk Try.underlying42 rfl (by rw [HS.out]; exact size42) ?_)
  refine (c23 (hm.below X1.below) held again).mono ?_
  rintro e w2 ⟨⟨b0, rfl⟩, hb2⟩
  have X2 := X1.step hb2
  clear X1 hb2
  cases b0
  · go_wp2_with fail
    go_ret
    exact ⟨rfl, X2.below⟩
  go_wp2_with (refine wpList_load_row rfl 42 (.tmp 3) rfl w.heap.size rfl 42 M (0, 0) _ X2.blk Try.underlying42 rfl (by rw [HS.out]; exact size42) ?_)
  refine (c19 (hm.below X2.below)).mono ?_
  rintro e w3 ⟨⟨b1, rfl, hf⟩, hb3⟩
  have X3 := X2.step hb3
  clear X2 hb3
  cases b1
  case true =>
    go_wp2_with fail
    go_ret
    exact ⟨rfl, X3.below⟩
  replace hf := hf rfl
  -- the copy
  go_wp2_with (refine wpList_load_row rfl 42 (.tmp 3) rfl w.heap.size rfl 42 M (0, 0) _ X3.blk Try.underlying42 rfl (by rw [HS.out]; exact size42) ?_)
  refine (c20 (hm.below X3.below) hf).mono ?_
  rintro e w4 ⟨M1, rfl, hm1, hb4⟩
  have X4 := X3.step hb4
  have H1 := hide hm1.size
  have A1 := hide hm1.one
  clear X3 hb4
  go_wp2_with (refine wpList_store_abs rfl 49 (.tmp 7) (.tmp 18) rfl w4.heap.size M1 rfl rfl 49 zero49 (heap_alloc_new _ _) (by rw [H1.out]; exact size49) (by rw [H1.out]; rfl) A1.out ?_)
  intro w5 hk5 hg5
  have hb5 := filled hg5
  have l5 : w4.heap.size < w5.heap.size := by have := hg5.size; simp at this; omega
  have X5 := X4.step hb5
  have hm5 := hm1.below hb5
  have K5 := hide hk5
  clear X4 hg5 hb5 hm1 hk5
  -- the view
  go_wp2_with (refine wpList_load_row rfl 49 (.tmp 7) rfl w4.heap.size rfl 49 M1 (0, 0) _ K5.out Try.underlying49 rfl (by rw [H1.out]; exact size49) ?_)
  refine (c21 hm5 hf held).mono ?_
  rintro e w6 ⟨ao2, cap2, rfl, hm2, _, hb6⟩
  obtain ⟨M2, hM2⟩ : ∃ M2, M2 = msg h (.slice ao2 es.length cap2) := ⟨_, rfl⟩
  rw [← hM2] at hm2 ⊢
  have X6 := X5.step hb6
  have H2 := hide hm2.size
  have A2 := hide hm2.one
  clear X5 hb6 hM2
  go_wp2_with (refine wpList_store_abs rfl 49 (.tmp 8) (.tmp 21) rfl w6.heap.size M2 rfl rfl 49 zero49 (heap_alloc_new _ _) (by rw [H2.out]; exact size49) (by rw [H2.out]; rfl) A2.out ?_)
  intro w7 hk7 hg7
  have hb7 := filled hg7
  have l7 : w6.heap.size < w7.heap.size := by have := hg7.size; simp at this; omega
  have X7 := X6.step hb7
  have hm7 := hm2.below hb7
  have K7 := hide hk7
  clear X6 hg7 hb7 hm2 hk7
  -- the view of the view
  go_wp2_with (refine wpList_load_row rfl 49 (.tmp 8) rfl w6.heap.size rfl 49 M2 (0, 0) _ K7.out Try.underlying49 rfl (by rw [H2.out]; exact size49) ?_)
  refine (c21 hm7 hf.view again).mono ?_
  rintro e w8 ⟨ao3, cap3, rfl, hm3, _, hb8⟩
  obtain ⟨M3, hM3⟩ : ∃ M3, M3 = msg h (.slice ao3 (es.map viewEn).length cap3) := ⟨_, rfl⟩
  rw [← hM3] at hm3 ⊢
  have X8 := X7.step hb8
  have H3 := hide hm3.size
  have A3 := hide hm3.one
  have K8 := hide ((hb8.block w6.heap.size l7).trans K7.out)
  have hm2' := hm7.below hb8
  have l8 : w6.heap.size < w8.heap.size := Nat.lt_of_lt_of_le l7 hb8.size
  clear X7 hb8 hM3 K7 hm7
  go_wp2_with (refine wpList_store_abs rfl 49 (.tmp 9) (.tmp 24) rfl w8.heap.size M3 rfl rfl 49 zero49 (heap_alloc_new _ _) (by rw [H3.out]; exact size49) (by rw [H3.out]; rfl) A3.out ?_)
  intro w9 hk9 hg9
  have hb9 := filled hg9
  have l9 : w8.heap.size < w9.heap.size := by have := hg9.size; simp at this; omega
  have X9 := X8.step hb9
  have hm9 : IsMsg w9 h M3 es.isEmpty (es.map viewEn) := by
    have := hm3.below hb9
    rw [view_view] at this
    rwa [show (es.map viewEn).isEmpty = es.isEmpty by cases es <;> rfl] at this
  have hv9 := hm2'.below hb9
  have K9 := hide hk9
  have K9' := hide ((hb9.block w6.heap.size l8).trans K8.out)
  clear X8 hg9 hb9 hm3 hk9 K8 hm2'
  -- both are the message
  go_wp2_with (first | (refine wpList_load_row rfl 49 (.tmp 8) rfl w6.heap.size rfl 49 M2 (0, 0) _ K9'.out Try.underlying49 rfl (by rw [H2.out]; exact size49) ?_) | (refine wpList_load_row rfl 42 (.tmp 3) rfl w.heap.size rfl 42 M (0, 0) _ X9.blk Try.underlying42 rfl (by rw [HS.out]; exact size42) ?_))
  refine (c22 hv9 (hm.below X9.below) hf).mono ?_
  rintro e w10 ⟨rfl, hb10⟩
  have X10 := X9.step hb10
  have hm10 := hm9.below hb10
  have K10 := hide ((hb10.block w8.heap.size l9).trans K9.out)
  clear X9 hb10 K9 K9' hm9 hv9
  go_wp2_with (first | (refine wpList_load_row_yes rfl 49 (.tmp 9) rfl w8.heap.size rfl 49 M3 (0, 0) _ K10.out Try.underlying49 rfl (by rw [H3.out]; exact size49) ?_) | (refine wpList_load_row_yes rfl 42 (.tmp 3) rfl w.heap.size rfl 42 M (0, 0) _ X10.blk Try.underlying42 rfl (by rw [HS.out]; exact size42) ?_))
  refine (c22 hm10 (hm.below X10.below) hf).mono ?_
  rintro e w11 ⟨rfl, hb11⟩
  have X11 := X10.step hb11
  clear X10 hb11
  go_wp2_with fail
  go_ret
  exact ⟨rfl, X11.below⟩
end Go.Proofs.Qxb6614540a.V
