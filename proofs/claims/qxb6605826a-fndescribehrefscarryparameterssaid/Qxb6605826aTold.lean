/-
  What describe answers: the links.
-/
import Derived.Test.Qxb6605826aLoopB
import Derived.Test.Qxb6605826aCarries
namespace Go.Proofs.Qxb6605826a
open Go.RowKit

/-- A store of five cells. -/
theorem five {x : World} {b : Nat} {a0 a1 a2 a3 a4 : Value} {t : TypeId} (h : x.heap[b]? = some (.cells #[a0, a1, a2, a3, a4] t (0, 0))) (v0 v1 v2 v3 v4 : Value) :
    (((((x.setCell ⟨b, 0, none⟩ v0).setCell ⟨b, 1, none⟩ v1).setCell ⟨b, 2, none⟩ v2).setCell ⟨b, 3, none⟩ v3).setCell ⟨b, 4, none⟩ v4).heap[b]? = some (.cells #[v0, v1, v2, v3, v4] t (0, 0)) ∧
    x.grownBy (((((x.setCell ⟨b, 0, none⟩ v0).setCell ⟨b, 1, none⟩ v1).setCell ⟨b, 2, none⟩ v2).setCell ⟨b, 3, none⟩ v3).setCell ⟨b, 4, none⟩ v4) (some b) := by
  have h1 := set_blk (j := 0) (v := v0) h
  have h2 := set_blk (j := 1) (v := v1) h1
  have h3 := set_blk (j := 2) (v := v2) h2
  have h4 := set_blk (j := 3) (v := v3) h3
  have h5 := set_blk (j := 4) (v := v4) h4
  have B := (((((Below.refl b x).setCell (p := ⟨b, 0, none⟩) (Nat.le_refl _) v0).setCell (p := ⟨b, 1, none⟩) (Nat.le_refl _) v1).setCell (p := ⟨b, 2, none⟩) (Nat.le_refl _) v2).setCell (p := ⟨b, 3, none⟩) (Nat.le_refl _) v3).setCell (p := ⟨b, 4, none⟩) (Nat.le_refl _) v4
  refine ⟨by rw [h5]; simp [Array.set!], ⟨B.os, B.tape, B.output, B.size, fun k _ hk => ?_⟩⟩
  have hk' : k ≠ b := fun e => hk (by simp [e])
  rw [Below.heap_setCell _ _ _ _ hk', Below.heap_setCell _ _ _ _ hk', Below.heap_setCell _ _ _ _ hk', Below.heap_setCell _ _ _ _ hk', Below.heap_setCell _ _ _ _ hk']

theorem triples (f g h : Nat → Value) : ∀ n, ((List.range n).flatMap fun j => [f j, g j, h j]).length = n * 3 ∧ ∀ k, k < n → ((List.range n).flatMap fun j => [f j, g j, h j])[k * 3]? = some (f k) ∧ ((List.range n).flatMap fun j => [f j, g j, h j])[k * 3 + 1]? = some (g k) ∧ ((List.range n).flatMap fun j => [f j, g j, h j])[k * 3 + 2]? = some (h k)
  | 0 => ⟨rfl, fun k hk => by omega⟩
  | n + 1 => by
    obtain ⟨hl, ih⟩ := triples f g h n
    have e : ((List.range (n + 1)).flatMap fun j => [f j, g j, h j]) = ((List.range n).flatMap fun j => [f j, g j, h j]) ++ [f n, g n, h n] := by simp [List.range_succ]
    rw [e]
    refine ⟨by rw [List.length_append, hl]; simp; omega, fun k hk => ?_⟩
    by_cases hkn : k < n
    · obtain ⟨h1, h2, h3⟩ := ih k hkn
      rw [List.getElem?_append_left (by omega), List.getElem?_append_left (by omega), List.getElem?_append_left (by omega)]
      exact ⟨h1, h2, h3⟩
    · obtain rfl : k = n := by omega
      rw [List.getElem?_append_right (by omega), List.getElem?_append_right (by omega), List.getElem?_append_right (by omega), hl]
      simp

def want (nc : Nat) : Nat := if nc = 0 then 1 else nc
def hrefOf (hr : ByteArray) (C : Nat → Ch) (I : Nat → Inp) (nc ni k : Nat) : ByteArray := if nc = 0 then hr ++ joinB (fillsB I ni) else hrefC hr C I ni k

/-- The links at block L, in blocks from B on. -/
structure Lks (B : Nat) (w : World) (L g cap : Nat) (po : Option Addr) (pc : Nat) (hr : ByteArray) (nc ni : Nat) (C : Nat → Ch) (I : Nat → Inp) : Prop where
  bL : B ≤ L
  bg : B ≤ g
  lL : L < w.heap.size
  lg : g < w.heap.size
  cL : w.cell? ⟨L, 0, none⟩ = some (.slice (some ⟨g, 0, none⟩) (want nc) cap)
  row : ∀ k, k < want nc → (∃ s, w.cell? ⟨g, k * 3, none⟩ = some (.string s)) ∧ w.cell? ⟨g, k * 3 + 1, none⟩ = some (.string (hrefOf hr C I nc ni k)) ∧ w.cell? ⟨g, k * 3 + 2, none⟩ = some (.slice po ni pc)
  par : ni = 0 ∨ ∃ b off, po = some ⟨b, off, none⟩ ∧ B ≤ b ∧ b < w.heap.size ∧ ∀ i, i < ni → w.cell? ⟨b, off + i * 3, none⟩ = some (.string (I i).name)

def LinksV (B : Nat) (w : World) (v : Value) (hr : ByteArray) (nc ni : Nat) (C : Nat → Ch) (I : Nat → Inp) : Prop :=
  (nc = 0 ∧ ni = 0 ∧ v = .pointer none) ∨ ((nc ≠ 0 ∨ ni ≠ 0) ∧ ∃ L g cap po pc, v = .pointer (some ⟨L, 0, none⟩) ∧ Lks B w L g cap po pc hr nc ni C I)

theorem Lks.move {B : Nat} {w w' : World} {L g cap : Nat} {po : Option Addr} {pc : Nat} {hr : ByteArray} {nc ni : Nat} {C : Nat → Ch} {I : Nat → Inp} (h : Lks B w L g cap po pc hr nc ni C I) (hs : w.heap.size ≤ w'.heap.size) (hb : ∀ b, B ≤ b → b < w.heap.size → w'.heap[b]? = w.heap[b]?) : Lks B w' L g cap po pc hr nc ni C I := by
  have cc : ∀ b j, B ≤ b → b < w.heap.size → w'.cell? ⟨b, j, none⟩ = w.cell? ⟨b, j, none⟩ := fun b j h1 h2 => World.cell?_of_block (hb b h1 h2)
  refine ⟨h.bL, h.bg, Nat.lt_of_lt_of_le h.lL hs, Nat.lt_of_lt_of_le h.lg hs, (cc _ _ h.bL h.lL).trans h.cL, fun k hk => ?_, ?_⟩
  · obtain ⟨⟨s, h0⟩, h1, h2⟩ := h.row k hk
    exact ⟨⟨s, (cc _ _ h.bg h.lg).trans h0⟩, (cc _ _ h.bg h.lg).trans h1, (cc _ _ h.bg h.lg).trans h2⟩
  · rcases h.par with h0 | ⟨b, off, hp, h1, h2, h3⟩
    · exact .inl h0
    · exact .inr ⟨b, off, hp, h1, Nat.lt_of_lt_of_le h2 hs, fun i hi => (cc _ _ h1 h2).trans (h3 i hi)⟩

theorem LinksV.move {B : Nat} {w w' : World} {v : Value} {hr : ByteArray} {nc ni : Nat} {C : Nat → Ch} {I : Nat → Inp} (h : LinksV B w v hr nc ni C I) (hs : w.heap.size ≤ w'.heap.size) (hb : ∀ b, B ≤ b → b < w.heap.size → w'.heap[b]? = w.heap[b]?) : LinksV B w' v hr nc ni C I := by
  rcases h with h0 | ⟨h1, L, g, cap, po, pc, hv, h2⟩
  · exact .inl h0
  · exact .inr ⟨h1, L, g, cap, po, pc, hv, h2.move hs hb⟩

theorem params_par {B : Nat} {w : World} {po : Option Addr} {ni pc : Nat} {I : Nat → Inp} (h : w.ownsRow B 42 3 (.slice po ni pc) ni (flatP I ni)) : ni = 0 ∨ ∃ b off, po = some ⟨b, off, none⟩ ∧ B ≤ b ∧ b < w.heap.size ∧ ∀ i, i < ni → w.cell? ⟨b, off + i * 3, none⟩ = some (.string (I i).name) := by
  rcases Nat.eq_zero_or_pos ni with h0 | hpos
  · exact .inl h0
  · obtain ⟨g, cap, hv, hb, hlt⟩ := h.form hpos
    cases hv
    refine .inr ⟨g, 0, rfl, hb, hlt, fun i hi => ?_⟩
    have := h.cellAt (i * 3) (by omega)
    rw [Nat.zero_add, this]
    exact ((triples (fun j => .string (I j).name) (fun j => .string (I j).label) (fun j => .bool (I j).req) ni).2 i hi).1

/-- Behind the second loop. -/
theorem Lk.told {w x : World} {dc rc : Array Value} {L : Nat} {po : Option Addr} {pc : Nat} {fv lv : Value} {hr : ByteArray} {C : Nat → Ch} {I : Nat → Inp} {ni nc : Nat} (h : Lk w x dc rc L (.slice po ni pc) fv lv hr C I ni nc) (hnc : 0 < nc) : LinksV (w.heap.size + 2) x (.pointer (some ⟨L, 0, none⟩)) hr nc ni C I := by
  obtain ⟨g, cap, rfl, hb, hlt⟩ := h.k.form hnc
  have hw : want nc = nc := by unfold want; rw [if_neg (by omega)]
  refine .inr ⟨.inl (by omega), L, g, cap, po, pc, rfl, ⟨h.lb, hb, (Array.getElem?_eq_some_iff.1 h.l).1, hlt, by rw [hw]; exact cell_of_row x _ 0 _ 37 _ h.l, fun k hk => ?_, params_par h.p⟩⟩
  rw [hw] at hk
  have t := (triples (fun j => .string (C j).label) (fun j => .string (hrefC hr C I ni j)) (fun _ => .slice po ni pc) nc).2 k hk
  refine ⟨⟨(C k).label, (h.k.cellAt (k * 3) (by omega)).trans t.1⟩, ?_, (h.k.cellAt (k * 3 + 2) (by omega)).trans t.2.2⟩
  rw [hrefOf, if_neg (by omega)]
  exact (h.k.cellAt (k * 3 + 1) (by omega)).trans t.2.1

theorem Lp.below {w x y : World} {dc rc : Array Value} {pv fv : Value} {k : Nat} {I : Nat → Inp} (h : Lp w x dc rc pv fv k I) (hb : Below x.heap.size x y) : Lp w y dc rc pv fv k I := by
  have sz := h.sz
  exact ⟨h.bel.trans (hb.mono (by omega)), Nat.le_trans sz hb.size, (hb.block _ (by omega)).trans h.d, (hb.block _ (by omega)).trans h.r, own_below h.p hb, own_below h.f hb⟩

/-- The one link of an action without choices. -/
theorem Lp.told {w x : World} {dc rc : Array Value} {po : Option Addr} {pc : Nat} {fv : Value} {ni nc : Nat} {I : Nat → Inp} (h : Lp w x dc rc (.slice po ni pc) fv ni I) (hr : ByteArray) (C : Nat → Ch) (s : ByteArray) (hni : ni ≠ 0) (h0 : nc = 0) {y : World}
    (hy : y = ((x.alloc (.cells #[.string s, .string (hr ++ joinB (fillsB I ni)), .slice po ni pc] 40)).alloc (.cells #[.slice (some ⟨x.heap.size, 0, none⟩) 1 1] 37)).setCell ⟨w.heap.size + 1, 4, none⟩ (.pointer (some ⟨x.heap.size + 1, 0, none⟩))) :
    Below w.heap.size w y ∧ w.heap.size + 2 ≤ y.heap.size ∧ y.heap[w.heap.size + 1]? = some (.cells (dc.set! 4 (.pointer (some ⟨x.heap.size + 1, 0, none⟩))) 29 (0, 0)) ∧ y.heap[w.heap.size]? = some (.cells rc 29 (0, 0)) ∧ LinksV (w.heap.size + 2) y (.pointer (some ⟨x.heap.size + 1, 0, none⟩)) hr nc ni C I := by
  have sz := h.sz
  have ha := (h.alloc (.cells #[.string s, .string (hr ++ joinB (fillsB I ni)), .slice po ni pc] 40)).alloc (.cells #[.slice (some ⟨x.heap.size, 0, none⟩) 1 1] 37)
  have keep : ∀ b, b ≠ w.heap.size + 1 → y.heap[b]? = ((x.alloc (.cells #[.string s, .string (hr ++ joinB (fillsB I ni)), .slice po ni pc] 40)).alloc (.cells #[.slice (some ⟨x.heap.size, 0, none⟩) 1 1] 37)).heap[b]? := fun b hb => by rw [hy]; exact Below.heap_setCell _ _ _ _ hb
  have sy : y.heap.size = x.heap.size + 2 := by rw [hy]; simp
  have b1 := (keep x.heap.size (by omega)).trans (two_old _ _ _)
  have b2 := (keep (x.heap.size + 1) (by omega)).trans (two_new _ _ _)
  refine ⟨by rw [hy]; exact ha.bel.setCell (p := ⟨w.heap.size + 1, 4, none⟩) (by show w.heap.size ≤ w.heap.size + 1; omega) _, by omega, by rw [hy]; exact set_blk ha.d, (keep _ (by omega)).trans ha.r, .inr ⟨.inr hni, x.heap.size + 1, x.heap.size, 1, po, pc, rfl, ⟨by omega, by omega, by omega, by omega, ?_, ?_, ?_⟩⟩⟩
  · rw [h0]; exact cell_of_row y _ 0 _ 37 _ b2
  · intro k hk
    rw [h0] at hk ⊢
    obtain rfl : k = 0 := by have : k < 1 := hk; omega
    exact ⟨⟨s, cell_of_row y _ 0 _ 40 _ b1⟩, cell_of_row y _ 1 _ 40 _ b1, cell_of_row y _ 2 _ 40 _ b1⟩
  · refine params_par (own_keep ha.p fun b cur hb => keep b ?_)
    rintro rfl
    rw [ha.d] at hb
    simp at hb
end Go.Proofs.Qxb6605826a
