/-
  ZZDescribe.
-/
import Derived.Test.Qxb6605826aTold
import Derived.Test.Qxb6605826aIcons
namespace Go.Proofs.Qxb6605826a
open Go.RowKit

theorem IsAct.below {w w' : World} {A : Nat} {id title desc label : ByteArray} {nc ni : Nat} {C : Nat → Ch} {I : Nat → Inp} (h : IsAct w A id title desc label nc C ni I) (hb : Below w.heap.size w w') : IsAct w' A id title desc label nc C ni I := by
  have lt := h.lt
  obtain ⟨co, cc, h4, hC⟩ := h.ch
  obtain ⟨io, ic, h5, hI⟩ := h.inp
  exact ⟨Nat.lt_of_lt_of_le lt hb.size, (hb.cell (p := ⟨A, 0, none⟩) lt).trans h.c0, (hb.cell (p := ⟨A, 1, none⟩) lt).trans h.c1, (hb.cell (p := ⟨A, 2, none⟩) lt).trans h.c2, (hb.cell (p := ⟨A, 3, none⟩) lt).trans h.c3,
    ⟨co, cc, (hb.cell (p := ⟨A, 4, none⟩) lt).trans h4, hC.below hb⟩, ⟨io, ic, (hb.cell (p := ⟨A, 5, none⟩) lt).trans h5, hI.below hb⟩⟩
theorem LinksV.mono {B B' : Nat} {w : World} {v : Value} {hr : ByteArray} {nc ni : Nat} {C : Nat → Ch} {I : Nat → Inp} (h : LinksV B w v hr nc ni C I) (hB : B' ≤ B) : LinksV B' w v hr nc ni C I := by
  rcases h with h0 | ⟨h1, L, g, cap, po, pc, hv, k⟩
  · exact .inl h0
  · refine .inr ⟨h1, L, g, cap, po, pc, hv, ⟨Nat.le_trans hB k.bL, Nat.le_trans hB k.bg, k.lL, k.lg, k.cL, k.row, ?_⟩⟩
    rcases k.par with h0 | ⟨b, off, hp, h2, h3⟩
    · exact .inl h0
    · exact .inr ⟨b, off, hp, Nat.le_trans hB h2, h3⟩
theorem size29' : (Try.prog.info? 29).map (·.size) = some 5 := by kernel_rfl

set_option maxRecDepth 100000 in
set_option maxHeartbeats 2000000 in
theorem f7_any (A : Nat) (mv : Value) (id title desc label hr : ByteArray) (nc ni : Nat) (C : Nat → Ch) (I : Nat → Inp) (B : Nat) (w : World)
    (F12 : ∀ (h : Nat) (w : World), IsAct w A id title desc label nc C ni I → IsIcons B w mv → w.cell? ⟨h, 1, none⟩ = some mv → Calls Try.prog 12 #[.pointer (some ⟨h, 0, none⟩), .pointer (some ⟨A, 0, none⟩)] w fun e w' => ∃ ic lv, e = .returned (.agg #[.string ic, .string title, .string desc, .string label, lv]) ∧ Below w.heap.size w w' ∧ LinksV (w.heap.size + 2) w' lv hr nc ni C I)
    (hA : IsAct w A id title desc label nc C ni I) (hm : IsIcons B w mv) :
    Calls Try.prog 7 #[mv, .pointer (some ⟨A, 0, none⟩)] w fun e w' => ∃ ic lv, e = .returned (.agg #[.string ic, .string title, .string desc, .string label, lv]) ∧ Below w.heap.size w w' ∧ LinksV w.heap.size w' lv hr nc ni C I := by
  obtain ⟨mo, rfl⟩ : ∃ mo, mv = .map mo := by
    rcases hm.is with rfl | ⟨b, n, D, rfl, _⟩
    · exact ⟨none, rfl⟩
    · exact ⟨some b, rfl⟩
  have HF := hide F12
  have HA := hide hA
  have HM := hide hm
  clear F12 hA hm
  go_enter Try.func7, Try.ntmps7
  go_wp2_with fail
  obtain ⟨W, hW⟩ : ∃ W, W = (w.alloc (.cells #[.string ⟨#[]⟩, .string ⟨#[]⟩, .string ⟨#[]⟩, .string ⟨#[]⟩, .pointer none] 29)).alloc (.cells #[.pointer none, .map mo, .slice none 0 0, .map none] 57) := ⟨_, rfl⟩
  rw [← hW]
  have bW : Below w.heap.size w W := by rw [hW]; exact ((Below.refl _ _).alloc (Nat.le_refl _) _).alloc (by simp) _
  have sW : W.heap.size = w.heap.size + 2 := by rw [hW]; simp
  have r0 : W.heap[w.heap.size]? = some (.cells #[.string ⟨#[]⟩, .string ⟨#[]⟩, .string ⟨#[]⟩, .string ⟨#[]⟩, .pointer none] 29 (0, 0)) := by rw [hW]; exact two_old _ _ _
  have r1 : W.heap[w.heap.size + 1]? = some (.cells #[.pointer none, .map mo, .slice none 0 0, .map none] 57 (0, 0)) := by rw [hW]; exact two_new _ _ _
  clear hW
  refine (HF.out (w.heap.size + 1) W (HA.out.below bW) (HM.out.below bW) (cell_of_row W _ 1 _ 57 _ r1)).mono ?_
  rintro e x ⟨ic, lv, rfl, bx, hT⟩
  have sx : w.heap.size + 2 ≤ x.heap.size := by rw [← sW]; exact bx.size
  have hrr := (bx.block w.heap.size (by omega)).trans r0
  have bx' : Below w.heap.size w x := bW.trans (bx.mono (by omega))
  have z0 : x.cell? ⟨w.heap.size, 0, none⟩ = some (.string ⟨#[]⟩) := cell_of_row x _ 0 _ 29 _ hrr
  have z1 : x.cell? ⟨w.heap.size, 1, none⟩ = some (.string ⟨#[]⟩) := cell_of_row x _ 1 _ 29 _ hrr
  have z2 : x.cell? ⟨w.heap.size, 2, none⟩ = some (.string ⟨#[]⟩) := cell_of_row x _ 2 _ 29 _ hrr
  have z3 : x.cell? ⟨w.heap.size, 3, none⟩ = some (.string ⟨#[]⟩) := cell_of_row x _ 3 _ 29 _ hrr
  have z4 : x.cell? ⟨w.heap.size, 4, none⟩ = some (.pointer none) := cell_of_row x _ 4 _ 29 _ hrr
  have zf : ∀ j, x.frozen? ⟨w.heap.size, j, none⟩ = false := fun j => frozen_of_row x _ j _ 29 hrr
  obtain ⟨po, rfl⟩ : ∃ po, lv = .pointer po := by
    rcases hT with ⟨_, _, rfl⟩ | ⟨_, L, _, _, _, _, rfl, _⟩
    · exact ⟨_, rfl⟩
    · exact ⟨_, rfl⟩
  obtain ⟨hb5, hg5⟩ := five hrr (.string ic) (.string title) (.string desc) (.string label) (.pointer po)
  have hB5 := bx'.grown hg5 (by omega) (fun b hb => by cases hb; omega)
  have hT5 := (hT.move hg5.size (fun b h1 h2 => hg5.block b h2 (by simp; omega))).mono (B' := w.heap.size) (by omega)
  have HB5 := hide hb5
  have HT := hide hT5
  have HBB := hide hB5
  clear hb5 hg5 hT hT5 hB5 hrr bx bx' r0 r1 bW
  go_wp2_with fail
  refine bodyPost_ret (v := .agg _) (results_cell_row Try.results7 _ _ w.heap.size 29 _ (0, 0) _ rfl HB5.out Try.underlying29 rfl size29') rfl ⟨ic, _, rfl, HBB.out, HT.out⟩
end Go.Proofs.Qxb6605826a
