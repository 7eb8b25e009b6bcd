/-
  ZZrecord; the law of two recorders, walked.
-/
import Derived.Test.Qxb6605618aGreatRecB
import Derived.Test.Qxb6605618aGreatRecC
namespace Go.Proofs.Qxb6605618aGreat
open Go.RowKit

/-- The log behind a record by a recorder that is settled or not. -/
def logged (b : Bool) (l : List An) (a : An) : List An := if b then l else l ++ [a]

theorem Apart.refl (w : World) (r s : Nat) : Apart w w r s := ⟨Below.refl _ _, fun _ _ _ _ _ _ _ => rfl⟩

set_option maxHeartbeats 400000 in
theorem f8_any (r s : Nat) (a : An) (b : Bool) (l : List An) (w : World) (h : Rec w r s a b) (hs : Srv w s l) (hl : l.length ≤ 65536) (hrs : s < r) :
    Calls Tryz.prog 8 #[.pointer (some ⟨r, 0, none⟩)] w fun e w' => e = .returned (.tuple #[]) ∧ Rec w' r s a true ∧ Srv w' s (logged b l a) ∧ Apart w w' r s := by
  cases b with
  | true =>
    go_enter Tryz.func8, Tryz.ntmps8
    go_wp2_with fail
    refine (f13_done r s a w h).mono ?_
    rintro e w' ⟨rfl, rfl⟩
    go_wp2_with fail
    go_end0
    exact ⟨rfl, h, hs, Apart.refl _ _ _⟩
  | false =>
    go_enter Tryz.func8, Tryz.ntmps8
    go_wp2_with fail
    refine (f13_new r s a l w h hs hl hrs).mono ?_
    rintro e w' ⟨rfl, hpost⟩
    go_wp2_with fail
    go_end0
    exact ⟨rfl, hpost⟩

theorem Rec.apart {w w' : World} {r r' s : Nat} {a : An} {b : Bool} (h : Rec w r s a b) (hA : Apart w w' r' s) (n1 : r ≠ r') (n2 : r ≠ s) : Rec w' r s a b := by
  unfold Rec at *
  rw [hA.rest r _ 72 n1 n2 (by decide) h, h]

theorem Srv.below {w w' : World} {s : Nat} {l : List An} (h : Srv w s l) (hb : Below w.heap.size w w') : Srv w' s l := by
  have hlt := h.lt
  obtain ⟨cs, hb0, hcs, h7, ao, cap, h16, hown⟩ := h.blk
  refine ⟨cs, (hb.block s hlt).trans hb0, hcs, h7, ao, cap, h16, own_other hown fun b cur hbc => hb.block b (Array.getElem?_eq_some_iff.1 hbc).1⟩

theorem made (w : World) (a b : An) (p q : Bool) : Srv (((w.alloc (.cells srvCells 66)).alloc (.cells (recCells w.heap.size a p) 72)).alloc (.cells (recCells w.heap.size b q) 72)) w.heap.size [] ∧
    Rec (((w.alloc (.cells srvCells 66)).alloc (.cells (recCells w.heap.size a p) 72)).alloc (.cells (recCells w.heap.size b q) 72)) (w.heap.size + 1) w.heap.size a p ∧
    Rec (((w.alloc (.cells srvCells 66)).alloc (.cells (recCells w.heap.size a p) 72)).alloc (.cells (recCells w.heap.size b q) 72)) (w.heap.size + 2) w.heap.size b q ∧
    Below w.heap.size w (((w.alloc (.cells srvCells 66)).alloc (.cells (recCells w.heap.size a p) 72)).alloc (.cells (recCells w.heap.size b q) 72)) := by
  have s1 : (w.alloc (.cells srvCells 66)).heap.size = w.heap.size + 1 := by simp
  have s2 : ((w.alloc (.cells srvCells 66)).alloc (.cells (recCells w.heap.size a p) 72)).heap.size = w.heap.size + 2 := by simp
  refine ⟨⟨srvCells, ?_, rfl, rfl, none, 0, rfl, World.ownsRow_nil _ _ _ _⟩, ?_, ?_, (((Below.refl _ _).alloc (Nat.le_refl _) _).alloc (by omega) _).alloc (by omega) _⟩
  · rw [Below.heap_alloc _ _ _ (by omega), Below.heap_alloc _ _ _ (by omega)]
    exact heap_alloc_new _ _
  · unfold Rec
    rw [Below.heap_alloc _ _ _ (by omega), ← s1]
    exact heap_alloc_new _ _
  · unfold Rec
    rw [← s2]
    exact heap_alloc_new _ _

set_option maxRecDepth 100000 in
set_option maxHeartbeats 4000000 in
theorem law3 (a b : An) (p q : Bool) (w : World) :
    Calls Tryz.prog 3 #[.string a.method, .string a.path, .string a.query, .string a.ctype, .int .i64 a.code, .bool p, .string b.method, .string b.path, .string b.query, .string b.ctype, .int .i64 b.code, .bool q] w fun e w' =>
      e = .returned (.bool true) ∧ Below w.heap.size w w' := by
  go_enter Tryz.func3, Tryz.ntmps3
  go_wp2_with fail
  refine (f5_any a b p q _).mono ?_
  rintro e w' ⟨rfl, z, rfl, hz⟩
  cases z with
  | false =>
    go_wp2_with fail
    go_ret
    exact ⟨rfl, Below.refl _ _⟩
  | true =>
    have hn := hz rfl
    clear hz
    have k0 : decide ((1048576 : Int) < a.method.size) = false := by simp; omega
    have k1 : decide ((1048576 : Int) < a.path.size) = false := by simp; omega
    have k2 : decide ((1048576 : Int) < a.query.size) = false := by simp; omega
    have k3 : decide ((1048576 : Int) < a.ctype.size) = false := by simp; omega
    have k4 : decide ((1048576 : Int) < b.method.size) = false := by simp; omega
    have k5 : decide ((1048576 : Int) < b.path.size) = false := by simp; omega
    have k6 : decide ((1048576 : Int) < b.query.size) = false := by simp; omega
    have k7 : decide ((1048576 : Int) < b.ctype.size) = false := by simp; omega
    have k8 : decide ((1048576 : Int) < (a.method.size : Int) + a.path.size + a.query.size + a.ctype.size + b.method.size + b.path.size + b.query.size + b.ctype.size) = false := by simp; omega
    go_wp2_with fail
    refine (f6_any _).mono ?_
    rintro e w1 ⟨rfl, hw1⟩
    go_wp2_with fail
    refine (f7_any _ a p _).mono ?_
    rintro e w2 ⟨rfl, hw2⟩
    go_wp2_with fail
    refine (f7_any _ b q _).mono ?_
    rintro e w3 ⟨rfl, hw3⟩
    rw [show ((w'.alloc (.cells srvCells 66)).alloc (.cells (recCells w'.heap.size a p) 72)).heap.size = w'.heap.size + 2 by simp]
    obtain ⟨hs, hr1, hr2, hbel⟩ : Srv w3 w'.heap.size [] ∧ Rec w3 (w'.heap.size + 1) w'.heap.size a p ∧ Rec w3 (w'.heap.size + 2) w'.heap.size b q ∧ Below w'.heap.size w' w3 := by
      subst hw1; subst hw2; subst hw3
      exact made w' a b p q
    clear hw1 hw2 hw3
    clear k0 k1 k2 k3 k4 k5 k6 k7 k8
    go_wp2_with fail
    refine (f8_any _ w'.heap.size a p _ _ hr1 hs (by simp) (by omega)).mono ?_
    rintro e w4 ⟨rfl, hr1, hs4, hA4⟩
    replace hr2 := hr2.apart hA4 (by omega) (by omega)
    replace hbel := hbel.trans hA4.below
    clear hs hA4
    go_wp2_with fail
    refine (f8_any _ w'.heap.size b q _ _ hr2 hs4 (by unfold logged; split <;> simp) (by omega)).mono ?_
    rintro e w5 ⟨rfl, hr2, hs5, hA5⟩
    replace hr1 := hr1.apart hA5 (by omega) (by omega)
    replace hbel := hbel.trans hA5.below
    clear hs4 hA5
    have hl5 : (logged q (logged p [] a) b).length ≤ 65536 := by unfold logged; split <;> split <;> simp
    go_wp2_with fail
    refine (f8_any _ w'.heap.size a true _ _ hr1 hs5 hl5 (by omega)).mono ?_
    rintro e w6 ⟨rfl, hr1, hs6, hA6⟩
    replace hr2 := hr2.apart hA6 (by omega) (by omega)
    replace hbel := hbel.trans hA6.below
    clear hs5 hA6
    go_wp2_with fail
    refine (f8_any _ w'.heap.size b true _ _ hr2 hs6 hl5 (by omega)).mono ?_
    rintro e w7 ⟨rfl, hr2, hs7, hA7⟩
    replace hr1 := hr1.apart hA7 (by omega) (by omega)
    replace hbel := hbel.trans hA7.below
    clear hs6 hA7
    replace hs7 : Srv w7 w'.heap.size (logged q (logged p [] a) b) := hs7
    go_wp2_with fail
    refine (f9_any _ w'.heap.size a true _ hr1).mono ?_
    rintro e w8 ⟨rfl, rfl⟩
    go_wp2_with fail
    refine (f9_any _ w'.heap.size b true _ hr2).mono ?_
    rintro e w8 ⟨rfl, rfl⟩
    cases p <;> cases q
    all_goals simp only [logged, if_true, if_false, Bool.false_eq_true, List.nil_append, List.cons_append] at hs7
    all_goals go_wp2_with fail
    all_goals refine (f10_any w'.heap.size _ _ hs7).mono ?_
    all_goals rintro e w9 ⟨rfl, rfl⟩
    all_goals simp only [List.length_nil, List.length_cons]
    all_goals go_wp2_with fail
    · refine (f11_any w'.heap.size _ 0 a _ hs7 rfl).mono ?_
      rintro e w10 ⟨rfl, hb10⟩
      have hs10 := hs7.below hb10
      replace hbel := hbel.trans (hb10.mono hbel.size)
      go_wp2_with fail
      refine (f11_any w'.heap.size _ 1 b _ hs10 rfl).mono ?_
      rintro e w11 ⟨rfl, hb11⟩
      replace hbel := hbel.trans (hb11.mono hbel.size)
      go_wp2_with fail
      go_ret
      exact ⟨rfl, hbel⟩
    · refine (f11_any w'.heap.size _ 0 a _ hs7 rfl).mono ?_
      rintro e w10 ⟨rfl, hb10⟩
      replace hbel := hbel.trans (hb10.mono hbel.size)
      go_wp2_with fail
      go_ret
      exact ⟨rfl, hbel⟩
    · refine (f11_any w'.heap.size _ 0 b _ hs7 rfl).mono ?_
      rintro e w10 ⟨rfl, hb10⟩
      replace hbel := hbel.trans (hb10.mono hbel.size)
      go_wp2_with fail
      go_ret
      exact ⟨rfl, hbel⟩
    · go_ret
      exact ⟨rfl, hbel⟩
end Go.Proofs.Qxb6605618aGreat
