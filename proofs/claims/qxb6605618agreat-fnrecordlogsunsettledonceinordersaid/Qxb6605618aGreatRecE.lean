/-
  The park of recorders: what the law of many recorders builds and walks; zzBytes of that law.
-/
import Derived.Test.Qxb6605618aGreatRecD
import Derived.OwnWalk
namespace Go.Proofs.Qxb6605618aGreat
open Go.RowKit

/-- A slice of ints that came in. -/
def IntsAt (w : World) (ao : Option Addr) (n : Nat) (C : Nat → Int) : Prop := n = 0 ∨ ∃ b off, ao = some ⟨b, off, none⟩ ∧ b < w.heap.size ∧ ∀ i, i < n → w.cell? ⟨b, off + i, none⟩ = some (.int .i64 (C i))
/-- A slice of bools that came in. -/
def BoolsAt (w : World) (ao : Option Addr) (n : Nat) (B : Nat → Bool) : Prop := n = 0 ∨ ∃ b off, ao = some ⟨b, off, none⟩ ∧ b < w.heap.size ∧ ∀ i, i < n → w.cell? ⟨b, off + i, none⟩ = some (.bool (B i))

/-- The log behind the first i recorders. -/
def logTo (A : Nat → An) (T : Nat → Bool) : Nat → List An
  | 0 => []
  | i + 1 => logged (T i) (logTo A T i) (A i)

theorem logged_ge (b : Bool) (l : List An) (a : An) : ∃ t, logged b l a = l ++ t := by
  cases b
  · exact ⟨[a], rfl⟩
  · exact ⟨[], by simp [logged]⟩

theorem logTo_prefix (A : Nat → An) (T : Nat → Bool) {i n : Nat} (h : i ≤ n) : ∃ t, logTo A T n = logTo A T i ++ t := by
  induction n with
  | zero => obtain rfl : i = 0 := by omega
            exact ⟨[], by simp⟩
  | succ n ih =>
    by_cases hi : i = n + 1
    · subst hi; exact ⟨[], by simp⟩
    · obtain ⟨t, ht⟩ := ih (by omega)
      obtain ⟨t', ht'⟩ := logged_ge (T n) (logTo A T n) (A n)
      exact ⟨t ++ t', by show logged (T n) (logTo A T n) (A n) = _; rw [ht', ht, List.append_assoc]⟩

theorem logTo_len (A : Nat → An) (T : Nat → Bool) (n : Nat) : (logTo A T n).length ≤ n := by
  induction n with
  | zero => simp [logTo]
  | succ n ih =>
    show (logged (T n) (logTo A T n) (A n)).length ≤ n + 1
    unfold logged
    split
    · omega
    · simp; omega

theorem logTo_at (A : Nat → An) (T : Nat → Bool) {i n : Nat} (h : i < n) (hT : T i = false) : (logTo A T n)[(logTo A T i).length]? = some (A i) := by
  obtain ⟨t, ht⟩ := logTo_prefix A T (show i + 1 ≤ n from h)
  rw [ht]
  have : logTo A T (i + 1) = logTo A T i ++ [A i] := by show logged (T i) (logTo A T i) (A i) = _; rw [hT]; rfl
  rw [this, List.append_assoc, List.getElem?_append_right (Nat.le_refl _)]
  simp

/-- Server s, the row of recorders s + 1, the recorders behind it; the first i are made. -/
structure Park (w0 w : World) (s t n i : Nat) (A : Nat → An) (f : Nat → Bool) (l : List An) : Prop where
  far : s + 1 < t
  bel : Below s w0 w
  srv : Srv w s l
  row : ∃ cs, w.heap[s + 1]? = some (.cells cs 25 (0, 0)) ∧ cs.size = n ∧ ∀ j : Nat, j < i → cs[j]? = some (.pointer (some ⟨t + j, 0, none⟩))
  recs : ∀ j, j < i → Rec w (t + j) s (A j) (f j)

theorem Park.cell {w0 w : World} {s t n i : Nat} {A : Nat → An} {f : Nat → Bool} {l : List An} (h : Park w0 w s t n i A f l) {j : Nat} (hj : j < i) : w.cell? ⟨s + 1, j, none⟩ = some (.pointer (some ⟨t + j, 0, none⟩)) := by
  obtain ⟨cs, hb, _, hc⟩ := h.row
  exact (cell_of_row w (s + 1) j cs 25 _ hb).trans (hc j hj)

theorem Park.below {w0 w w' : World} {s t n i : Nat} {A : Nat → An} {f : Nat → Bool} {l : List An} (h : Park w0 w s t n i A f l) (hb : Below w.heap.size w w') : Park w0 w' s t n i A f l := by
  obtain ⟨cs, hc, hn, hcs⟩ := h.row
  refine ⟨h.far, h.bel.trans (hb.mono (Nat.le_of_lt h.srv.lt)), h.srv.below hb, ⟨cs, (hb.block _ (Array.getElem?_eq_some_iff.1 hc).1).trans hc, hn, hcs⟩, fun j hj => ?_⟩
  have := h.recs j hj
  exact (hb.block _ this.lt).trans this

/-- One is recorded. -/
theorem Park.record {w0 w w' : World} {s t n i : Nat} {A : Nat → An} {f : Nat → Bool} {l : List An} (h : Park w0 w s t n i A f l) {j : Nat} (hr : Rec w' (t + j) s (A j) true) (hs : Srv w' s (logged (f j) l (A j))) (hA : Apart w w' (t + j) s) :
    Park w0 w' s t n i A (fun k => f k || decide (k = j)) (logged (f j) l (A j)) := by
  obtain ⟨cs, hc, hn, hcs⟩ := h.row
  have far := h.far
  refine ⟨far, h.bel.trans hA.below, hs, ⟨cs, (hA.rest _ _ _ (by omega) (by omega) (by decide) hc).trans hc, hn, hcs⟩, fun k hk => ?_⟩
  by_cases hkj : k = j
  · subst hkj
    simpa using hr
  · have := (h.recs k hk).apart hA (by omega) (by omega)
    simpa [hkj] using this

theorem Park.flags {w0 w : World} {s t n i : Nat} {A : Nat → An} {f g : Nat → Bool} {l : List An} (h : Park w0 w s t n i A f l) (hfg : ∀ j, j < i → f j = g j) : Park w0 w s t n i A g l :=
  ⟨h.far, h.bel, h.srv, h.row, fun j hj => hfg j hj ▸ h.recs j hj⟩

/-- One more is made. -/
theorem Park.more {w0 w : World} {s t n i : Nat} {A : Nat → An} {f : Nat → Bool} (h : Park w0 w s t n i A f []) (hsz : w.heap.size = t + i) (hi : i < n) :
    Park w0 ((w.alloc (.cells (recCells s (A i) (f i)) 72)).setCell ⟨s + 1, i, none⟩ (.pointer (some ⟨t + i, 0, none⟩))) s t n (i + 1) A f [] ∧
    ((w.alloc (.cells (recCells s (A i) (f i)) 72)).setCell ⟨s + 1, i, none⟩ (.pointer (some ⟨t + i, 0, none⟩))).heap.size = t + (i + 1) := by
  obtain ⟨cs, hc, hn, hcs⟩ := h.row
  have far := h.far
  have hb1 : Below w.heap.size w (w.alloc (.cells (recCells s (A i) (f i)) 72)) := (Below.refl _ _).alloc (Nat.le_refl _) _
  have h1 := h.below hb1
  have c1 : (w.alloc (.cells (recCells s (A i) (f i)) 72)).heap[s + 1]? = some (.cells cs 25 (0, 0)) := (hb1.block _ (by omega)).trans hc
  refine ⟨⟨far, h1.bel.setCell (p := ⟨s + 1, i, none⟩) (Nat.le_succ s) _, ?_, ⟨cs.set! i _, set_blk c1, by simp [Array.set!, hn], fun j hj => ?_⟩, fun j hj => ?_⟩, by simp [World.setCell]; omega⟩
  · obtain ⟨cs', hb0, hcs0, h7, ao, cap, h16, hown⟩ := h1.srv.blk
    refine ⟨cs', (Below.heap_setCell _ _ _ _ (by show s ≠ s + 1; omega)).trans hb0, hcs0, h7, ao, cap, h16, own_other hown fun b cur hbc => Below.heap_setCell _ _ _ _ ?_⟩
    rintro rfl
    rw [c1] at hbc
    simp at hbc
  · simp only [Array.set!, Array.getElem?_setIfInBounds]
    by_cases hji : i = j
    · subst hji
      simp [hn, hi]
    · simp [hji]
      exact hcs j (by omega)
  · refine (Below.heap_setCell _ _ _ _ (by show t + j ≠ s + 1; omega)).trans ?_
    by_cases hji : j = i
    · subst hji
      rw [← hsz]
      exact heap_alloc_new _ _
    · exact h1.recs j (by omega)

set_option maxRecDepth 100000 in
set_option maxHeartbeats 4000000 in
theorem f12_any (m p : ByteArray) (ao bo : Option Addr) (n k c c' : Nat) (w : World) :
    Calls Tryz.prog 12 #[.string m, .string p, .slice ao n c, .slice bo k c'] w fun e w' => w' = w ∧ Guarded e (m.size + p.size + n + k) := by
  by_cases h0 : 1048576 < (m.size : Int)
  · go_enter Tryz.func12, Tryz.ntmps12
    go_wp2
    go_ret
    exact ⟨rfl, false, rfl, by simp⟩
  by_cases h1 : 1048576 < (p.size : Int)
  · go_enter Tryz.func12, Tryz.ntmps12
    go_wp2
    go_ret
    exact ⟨rfl, false, rfl, by simp⟩
  by_cases h2 : 1048576 < (m.size : Int) + (p.size : Int)
  · go_enter Tryz.func12, Tryz.ntmps12
    go_wp2
    go_ret
    exact ⟨rfl, false, rfl, by simp⟩
  by_cases h3 : 1048576 < (n : Int)
  · go_enter Tryz.func12, Tryz.ntmps12
    go_wp2
    go_ret
    exact ⟨rfl, false, rfl, by simp⟩
  by_cases h4 : 1048576 < (m.size : Int) + (p.size : Int) + (n : Int)
  · go_enter Tryz.func12, Tryz.ntmps12
    go_wp2
    go_ret
    exact ⟨rfl, false, rfl, by simp⟩
  by_cases h5 : 1048576 < (k : Int)
  · go_enter Tryz.func12, Tryz.ntmps12
    go_wp2
    go_ret
    exact ⟨rfl, false, rfl, by simp⟩
  by_cases h6 : 1048576 < (m.size : Int) + (p.size : Int) + (n : Int) + (k : Int)
  · go_enter Tryz.func12, Tryz.ntmps12
    go_wp2
    go_ret
    exact ⟨rfl, false, rfl, by simp⟩
  go_enter Tryz.func12, Tryz.ntmps12
  go_wp2
  go_ret
  exact ⟨rfl, true, rfl, fun _ => by omega⟩
end Go.Proofs.Qxb6605618aGreat
