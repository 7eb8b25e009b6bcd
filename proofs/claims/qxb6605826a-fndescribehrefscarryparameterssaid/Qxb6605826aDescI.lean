/-
  describe: an action with inputs alone.
-/
import Derived.Test.Qxb6605826aDescBase
namespace Go.Proofs.Qxb6605826a
open Go.RowKit

set_option maxRecDepth 1000000 in
set_option maxHeartbeats 40000000 in
theorem f12_inputs (h A : Nat) (mv : Value) (id title desc label : ByteArray) (nc ni : Nat) (C : Nat → Ch) (I : Nat → Inp) (B : Nat) (w : World) (hA : IsAct w A id title desc label nc C ni I) (hm : IsIcons B w mv) (hid' : id.size ≤ 1048576) (hni : ni ≤ 4096) (hcm : ∀ j, j < nc → (C j).id.size ≤ 1048576) (hnm : ∀ j, j < ni → (I j).name.size ≤ 1048576) (hh : w.cell? ⟨h, 1, none⟩ = some mv) (h0 : nc = 0) (hi0 : ¬ ni = 0) :
    Calls Try.prog 12 #[.pointer (some ⟨h, 0, none⟩), .pointer (some ⟨A, 0, none⟩)] w fun e w' => ∃ ic lv, e = .returned (.agg #[.string ic, .string title, .string desc, .string label, lv]) ∧ Below w.heap.size w w' ∧ LinksV (w.heap.size + 2) w' lv (hrB id) nc ni C I := by
  have hid : id.size ≤ maxLen := by unfold maxLen; omega
  have HCM := hide hcm
  have HNM := hide hnm
  have H0 := hide h0
  have HI0 := hide hi0
  clear hcm hnm h0 hi0
  have a0 := hA.c0
  have a1 := hA.c1
  have a2 := hA.c2
  have a3 := hA.c3
  obtain ⟨w1, hw1⟩ : ∃ w1, w1 = w.alloc (.cells #[.string ⟨#[]⟩, .string ⟨#[]⟩, .string ⟨#[]⟩, .string ⟨#[]⟩, .pointer none] 29) := ⟨_, rfl⟩
  have b1 : Below w.heap.size w w1 := by rw [hw1]; exact (Below.refl _ _).alloc (Nat.le_refl _) _
  have s1 : w1.heap.size = w.heap.size + 1 := by rw [hw1]; simp
  have lA := hA.lt
  replace a0 := (b1.cell (p := ⟨A, 0, none⟩) lA).trans a0
  replace a1 := (b1.cell (p := ⟨A, 1, none⟩) lA).trans a1
  replace a2 := (b1.cell (p := ⟨A, 2, none⟩) lA).trans a2
  replace a3 := (b1.cell (p := ⟨A, 3, none⟩) lA).trans a3
  have lh := World.block_lt_of_cell? w _ hh
  replace hh := (b1.cell (p := ⟨h, 1, none⟩) lh).trans hh
  obtain ⟨ic, hl⟩ := hm.look id hid
  have hlook : (Instr.lookup 31 mv (.string id) false).run Try.prog w1.drew = .ok (.string ic) w1.drew := hl _ b1.drew
  have hlook' : ∀ o, (Instr.lookup 31 mv (.string id) false).run Try.prog (w1.alloc o).drew = .ok (.string ic) (w1.alloc o).drew := fun o => hl _ (b1.alloc (by omega) o).drew
  clear hl
  have hw1' := hw1.symm
  have HM := hide hm
  have HA := hide hA
  have HB1 := hide b1
  clear hw1 hm hA b1
  go_enter Try.func12, Try.ntmps12
  go_wp2_with fail
  go_region
  obtain ⟨w2, hw2⟩ : ∃ w2, w2 = (w1.alloc (.cells #[.string ic, .string title, .string desc, .string label, .pointer none] 29)).drew := ⟨_, rfl⟩
  rw [← hw2]
  have b2 : Below w.heap.size w w2 := by rw [hw2]; exact (HB1.out.alloc (by omega) _).drew
  have hd : w2.heap[w.heap.size + 1]? = some (.cells #[.string ic, .string title, .string desc, .string label, .pointer none] 29 (0, 0)) := by
    rw [hw2, ← s1]; exact heap_alloc_new _ _
  have hr : w2.heap[w.heap.size]? = some (.cells #[.string ⟨#[]⟩, .string ⟨#[]⟩, .string ⟨#[]⟩, .string ⟨#[]⟩, .pointer none] 29 (0, 0)) := by
    rw [hw2]
    refine (Below.heap_alloc w1 _ w.heap.size (by omega)).trans ?_
    rw [← hw1']; exact heap_alloc_new _ _
  have s2 : w2.heap.size = w.heap.size + 2 := by rw [hw2]; show (w1.alloc _).heap.size = _; simp; omega
  obtain ⟨io, ic', i5, hIn⟩ := HA.out.inp
  have I5 := hide i5
  have i5' : w2.cell? ⟨A, 5, none⟩ = some (.slice io ni ic') := (b2.cell (p := ⟨A, 5, none⟩) lA).trans i5
  have HD := hide hd
  have HRR := hide hr
  have HB2 := hide b2
  have HIn := hide hIn
  clear hw2 hd hr b2 hw1' hlook hlook' a0 a1 a2 a3 hh i5 hIn s1 HB1
  obtain ⟨i0, hi, hz0, hz1, hz2⟩ := info_parts info42
  have HI := hide hi
  clear hi
  obtain ⟨dc, hdc⟩ : ∃ dc : Array Value, dc = #[.string ic, .string title, .string desc, .string label, .pointer none] := ⟨_, rfl⟩
  obtain ⟨rc, hrc⟩ : ∃ rc : Array Value, rc = #[.string ⟨#[]⟩, .string ⟨#[]⟩, .string ⟨#[]⟩, .string ⟨#[]⟩, .pointer none] := ⟨_, rfl⟩
  rw [← hdc] at HD
  rw [← hrc] at HRR
  have L0 : Lp w w2 dc rc (.slice none 0 0) (.slice none 0 0) 0 I := ⟨HB2.out, by omega, HD.out, HRR.out, World.ownsRow_nil _ _ _ _, World.ownsRow_nil _ _ _ _⟩
  have HDC := hide hdc
  have HRC := hide hrc
  clear HD HRR HB2 hdc hrc s2
  go_wp2_with fail
  refine loop1 _ w w2 dc rc io ni ic' I _ _ _ _ _ _ _ _ _ _ _ _ _ _ _ _ _ _ _ _ _ _ _ _ _ _ _ _ _ _ _ _ _ _ _ _ _ _ _ _ _ _ _ _ _ _ _ _ _ _ _ _ _ _ _ _ _ _ _ _ _ _ _ _ _ _ _ _ _ _ _ _ _ _ _ _ _ _ _ _ _ _ _ _ _ _ _ _ _ _ _ _ _ _ _ _ _ _ _ _ _ _ _ _ _ _ _ _ _ _ _ _ _ _ _ _ _ _ _ _ _ _ _ _ _ _ _ _ _ _ _ _ _ _ HIn.out hni HNM.out L0 ?_
  intro u6 u7 _ _ _ _ _ _ _ _ _ _ _ _ _ _ _ _ _ _ _ _ _ _ _ _ _ wr HL HF
  clear L0
  obtain ⟨po, pc, rfl⟩ := slice_form HL.p
  obtain ⟨co, cc, i4, hCh⟩ := HA.out.ch
  have lA1 : A ≠ w.heap.size + 1 := by omega
  have sr := HL.sz
  have lA2 : A ≠ wr.heap.size := by omega
  have q0 : wr.cell? ⟨A, 0, none⟩ = some (.string id) := (HL.bel.cell (p := ⟨A, 0, none⟩) lA).trans HA.out.c0
  have q3 : wr.cell? ⟨A, 3, none⟩ = some (.string label) := (HL.bel.cell (p := ⟨A, 3, none⟩) lA).trans HA.out.c3
  have q4 : wr.cell? ⟨A, 4, none⟩ = some (.slice co nc cc) := (HL.bel.cell (p := ⟨A, 4, none⟩) lA).trans i4
  have q5 : wr.cell? ⟨A, 5, none⟩ = some (.slice io ni ic') := (HL.bel.cell (p := ⟨A, 5, none⟩) lA).trans (by obtain ⟨x1, x2, x3, _⟩ := HA.out.inp; exact I5.out)
  have HL := hide HL
  have HCh := hide hCh
  clear i4 hCh
  have h0 := H0.out
  have hi0 := HI0.out
  have hpos : (nc : Int) ≤ 0 := by omega
  have hpos' : ¬ (0 : Int) < (nc : Int) := by omega
  have hin : (0 : Int) < (ni : Int) := by omega
  obtain ⟨fg, fcap, rfl, hfb, hfl⟩ := HL.out.f.form (by omega)
  have hown := HL.out.f
  rw [fills_str] at hown
  have fs := fill_sizes I ni HNM.out
  have jr := join_row (W := wr.drew) hown.drew (by simp [fillsB]; omega) fs
  have js : (joinB (fillsB I ni)).size ≤ 8592072617 := join_small _ (by simp [fillsB]; omega) fs
  have hs := hr_small hid'
  have hcat : ¬ 9223372036854775807 < (hrB id).size + (joinB (fillsB I ni)).size := by omega
  have JRR := hide jr
  clear jr hown fs hfb hfl
  go_wp2_with fail
  refine region20 _ w wr A fg fcap dc rc po ni pc I (hrB id) (joinB (fillsB I ni)) label _ _ _ _ _ _ _ _ _ _ _ _ _ _ _ _ _ _ _ _ _ _ _ _ _ _ _ _ _ _ _ _ _ _ _ _ _ _ _ _ _ _ _ _ _ _ _ _ _ _ _ _ _ _ _ _ _ _ _ _ _ _ _ _ _ _ _ _ _ _ _ _ _ _ _ _ _ _ _ _ _ _ _ _ _ _ _ _ _ _ _ _ _ _ _ _ _ _ _ _ _ _ _ _ _ _ _ _ _ _ _ _ _ _ _ _ _ _ _ _ _ _ _ _ _ _ _ _ _ _ _ _ _ _ HL.out (by rw [HDC.out]; rfl) lA HA.out.c3 hcat JRR.out ?_
  intro _ _ _ _ _ _ _ _ _ _ _ _ _ _ xj LJ
  obtain ⟨x, hx⟩ : ∃ x, x = ((xj.alloc (.cells #[.string label, .string (hrB id ++ joinB (fillsB I ni)), .slice po ni pc] 40)).alloc (.cells #[.slice (some ⟨xj.heap.size, 0, none⟩) 1 1] 37)).setCell ⟨w.heap.size + 1, 4, none⟩ (.pointer (some ⟨xj.heap.size + 1, 0, none⟩)) := ⟨_, rfl⟩
  rw [← hx]
  obtain ⟨bx, sx, hd, hrr, hT0⟩ := Lp.told LJ (hrB id) C label hi0 h0 hx
  replace hd : x.heap[w.heap.size + 1]? = some (.cells #[.string ic, .string title, .string desc, .string label, .pointer (some ⟨xj.heap.size + 1, 0, none⟩)] 29 (0, 0)) := hd.trans (by rw [HDC.out]; rfl)
  rw [HRC.out] at hrr
  have T := hide hT0
  clear hT0 hx LJ HL JRR q0 q3 q4 q5 HDC HRC HCh
  have y0 : x.cell? ⟨w.heap.size + 1, 0, none⟩ = some (.string ic) := cell_of_row x _ 0 _ 29 _ hd
  have y1 : x.cell? ⟨w.heap.size + 1, 1, none⟩ = some (.string title) := cell_of_row x _ 1 _ 29 _ hd
  have y2 : x.cell? ⟨w.heap.size + 1, 2, none⟩ = some (.string desc) := cell_of_row x _ 2 _ 29 _ hd
  have y3 : x.cell? ⟨w.heap.size + 1, 3, none⟩ = some (.string label) := cell_of_row x _ 3 _ 29 _ hd
  have y4 : x.cell? ⟨w.heap.size + 1, 4, none⟩ = some (.pointer (some ⟨xj.heap.size + 1, 0, none⟩)) := cell_of_row x _ 4 _ 29 _ hd
  have z0 : x.cell? ⟨w.heap.size, 0, none⟩ = some (.string ⟨#[]⟩) := cell_of_row x _ 0 _ 29 _ hrr
  have z1 : x.cell? ⟨w.heap.size, 1, none⟩ = some (.string ⟨#[]⟩) := cell_of_row x _ 1 _ 29 _ hrr
  have z2 : x.cell? ⟨w.heap.size, 2, none⟩ = some (.string ⟨#[]⟩) := cell_of_row x _ 2 _ 29 _ hrr
  have z3 : x.cell? ⟨w.heap.size, 3, none⟩ = some (.string ⟨#[]⟩) := cell_of_row x _ 3 _ 29 _ hrr
  have z4 : x.cell? ⟨w.heap.size, 4, none⟩ = some (.pointer none) := cell_of_row x _ 4 _ 29 _ hrr
  have zf : ∀ j, x.frozen? ⟨w.heap.size, j, none⟩ = false := fun j => frozen_of_row x _ j _ 29 hrr
  obtain ⟨hb5, hg5⟩ := five hrr (.string ic) (.string title) (.string desc) (.string label) (.pointer (some ⟨xj.heap.size + 1, 0, none⟩))
  have hB5 := bx.grown hg5 (by omega) (fun b hb => by cases hb; omega)
  have hT := T.out.move hg5.size (fun b h1 h2 => hg5.block b h2 (by simp; omega))
  have HB5 := hide hb5
  have HT := hide hT
  have HBB := hide hB5
  clear hb5 hg5 hT hB5 T hd hrr
  go_wp2_with fail
  refine bodyPost_ret (v := .agg _) (results_cell_row Try.results12 _ _ w.heap.size 29 _ (0, 0) _ rfl HB5.out Try.underlying29 rfl size29) rfl ⟨ic, _, rfl, HBB.out, HT.out⟩
end Go.Proofs.Qxb6605826a
